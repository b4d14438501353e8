import JvmDerived
import JvmDerived.Pilot.@@N@@Statement
import JvmDerived.Pilot.@@N@@Code
set_option linter.unusedVariables false
set_option linter.unusedSimpArgs false
namespace Jvm.RoadKit
open Sem ClassFile Op Lib Jvm.Stand Jvm.Free Jvm.LawKit
section New
variable {p : Program} {l : Launch} {e : Env} {R : Room} {s : State} {m : MethodId} {args : Array Value} {below : List Frame} {meth : Method} {c : Code} {T : State} {locs : List Loc} {cells slots : Nat}
theorem retI (X : Stand p l e R s m args below meth c T locs cells slots) (hx : p.tables.exec = Jvm.exec) {pc : Nat} {Ls : Array Slot} {z : Int32} {rest : List Value} (hret : meth.sig.returnType = some .int) (hd : decode c.code pc = .ok (.ireturn, 1)) {fs : List Frame}
    (hl : ∀ (f : JFrame) (acts : List Action), f.method = m → f.locked = none → f.entered = [] → (doReturn e (T.setTop f) acts (some (.int z))).1 = T.setFrames fs) : Steps p.tables e below (T.setTop (mkF m pc Ls (.int z :: rest))) (T.setFrames fs) := by
  have hm' : T.vm.method? m = some meth := X.method'
  have hn : narrow .int (.int z) = .int z := rfl
  show Steps p.tables e below (T.setTop { method := m, pc := pc, locals := Ls, stack := _ :: rest, locked := none }) _
  jvm_step X.here [X.here.top, hx, hd, hm', hret, hn]
  first | (intro acts; rw [hl _ acts rfl rfl rfl]) | rw [hl _ _ rfl rfl rfl]
  exact Steps.refl _
end New
end Jvm.RoadKit

/- laws to paste: Road.backV, Road.eqW, Road.codOf (cut by pick.py; bodies as the Statement names them) -/
namespace Jvm.Pilot.@@N@@
namespace StrChars
open Jvm Sem ClassFile Op Lib Jvm.Stand Jvm.Free.XT Jvm.Free.ALB Jvm.Free.JM Jvm.Free
open Jvm.Lib.Cold (StaticIs)
/-- a char array whose places are chars -/
def Ch (a : Addr) (A : Cell) (U : State) : Prop := Arr .char a A U ∧ Typed .char A
theorem Ch.mv {a : Addr} {A : Cell} {U U' : State} (h : Ch a A U) (hal : U.vm.Alike U'.vm) (hh : U'.heap = U.heap) : Ch a A U' := ⟨h.1.mv hal hh, h.2⟩
theorem Ch.keep {a : Addr} {A : Cell} {U U' : State} (h : Ch a A U) (hal : U.vm.Alike U'.vm) (hk : U'.heap[a]? = some A) : Ch a A U' := ⟨h.1.keep hal hk, h.2⟩
/-- what place i of a char[]'s cell holds -/
def cv (A : Cell) (i : Nat) : Int32 := match A.slots[i]? with | some (.int x) => x | _ => 0
theorem Ch.get {a : Addr} {A : Cell} {U : State} (h : Ch a A U) {i : Nat} (hi : i < A.slots.size) : A.slots[i]? = some (.int (cv A i)) := by
  have e := Array.getElem?_eq_getElem hi
  have f := h.2 i _ e
  unfold cv; rw [e]
  generalize A.slots[i] = v at f
  cases v <;> simp [fits] at f ⊢
/-- the byte that i2b leaves of a char -/
def lo8 (x : Int32) : Int32 := x.toInt8.toInt32
theorem fits_lo8 (y : Int32) : fits .byte (.int (lo8 y)) = true := by
  have h1 := y.toInt8.le_toInt
  have h2 := y.toInt8.toInt_lt
  simp only [lo8, fits, Bool.and_eq_true, decide_eq_true_eq, Int32.le_iff_toInt_le, Int8.toInt_toInt32, show (-128 : Int32).toInt = -128 from by decide, show (127 : Int32).toInt = 127 from by decide]
  omega
/-- A' is A but that each place j of lo .. hi - 1 holds f j -/
def Laid (A A' : Cell) (lo hi : Nat) (f : Nat → Value) : Prop := A'.cls = A.cls ∧ A'.vm = A.vm ∧ A'.slots.size = A.slots.size ∧ ∀ i, A'.slots[i]? = if lo ≤ i ∧ i < hi then some (f i) else A.slots[i]?
theorem Laid.zero (A : Cell) (lo : Nat) (f : Nat → Value) : Laid A A lo (lo + 0) f := ⟨rfl, rfl, rfl, fun i => by rw [if_neg (by omega)]⟩
theorem Laid.step {A Ak : Cell} {lo k : Nat} {f : Nat → Value} {v : Value} (h : Laid A Ak lo k f) (hlo : lo ≤ k) (hk : k < Ak.slots.size) (hv : v = f k) : Laid A (Ak.setSlot k v) lo (k + 1) f := by
  refine ⟨h.1, h.2.1, by simpa [Cell.setSlot] using h.2.2.1, fun i => ?_⟩
  by_cases e : k = i
  · subst e; rw [Cell.slots_setSlot_self v hk, if_pos (by omega), hv]
  · rw [Cell.slots_setSlot_ne v e, h.2.2.2 i]
    by_cases q : lo ≤ i ∧ i < k
    · rw [if_pos q, if_pos (by omega)]
    · rw [if_neg q, if_neg (by omega)]
def U16 : String := "java/lang/StringUTF16"
namespace Cmp5
def yN : MethodName := ⟨"java/lang/StringUTF16", "compress", "([CI[BII)I"⟩
abbrev yB : ByteArray := jdk_52_method_21_code
theorem d0 : decode yB 0 = .ok (.iconst 0, 1) := by decide +kernel
theorem d1 : decode yB 1 = .ok (.istore 5, 2) := by decide +kernel
theorem d3 : decode yB 3 = .ok (.iload 5, 2) := by decide +kernel
theorem d5 : decode yB 5 = .ok (.iload 4, 2) := by decide +kernel
theorem d7 : decode yB 7 = .ok (.if_icmp (.ge) 37, 3) := by decide +kernel
theorem d10 : decode yB 10 = .ok (.aload_n 0, 1) := by decide +kernel
theorem d11 : decode yB 11 = .ok (.iload_n 1, 1) := by decide +kernel
theorem d12 : decode yB 12 = .ok (.caload, 1) := by decide +kernel
theorem d13 : decode yB 13 = .ok (.istore 6, 2) := by decide +kernel
theorem d15 : decode yB 15 = .ok (.iload 6, 2) := by decide +kernel
theorem d17 : decode yB 17 = .ok (.sipush 255, 3) := by decide +kernel
theorem d20 : decode yB 20 = .ok (.if_icmp (.le) 6, 3) := by decide +kernel
theorem d26 : decode yB 26 = .ok (.aload_n 2, 1) := by decide +kernel
theorem d27 : decode yB 27 = .ok (.iload_n 3, 1) := by decide +kernel
theorem d28 : decode yB 28 = .ok (.iload 6, 2) := by decide +kernel
theorem d30 : decode yB 30 = .ok (.i2b, 1) := by decide +kernel
theorem d31 : decode yB 31 = .ok (.bastore, 1) := by decide +kernel
theorem d32 : decode yB 32 = .ok (.iinc 1 1, 3) := by decide +kernel
theorem d35 : decode yB 35 = .ok (.iinc 3 1, 3) := by decide +kernel
theorem d38 : decode yB 38 = .ok (.iinc 5 1, 3) := by decide +kernel
theorem d41 : decode yB 41 = .ok (.goto (-38), 3) := by decide +kernel
theorem d44 : decode yB 44 = .ok (.iload 4, 2) := by decide +kernel
theorem d46 : decode yB 46 = .ok (.ireturn, 1) := by decide +kernel
def site : List Cond := []
def tab : Cond := tabOf yN yB 7 (some .int) site
def P (b : Addr) (A : Cell) (d : Addr) (B : Cell) (o q len : Nat) (args : Array Value) (s : State) : Prop := args = #[.ref b, .int (Int32.ofNat o), .ref d, .int (Int32.ofNat q), .int (Int32.ofNat len)] ∧ Ch b A s ∧ Arr .byte d B s ∧ b ≠ d ∧ o + len ≤ A.slots.size ∧ q + len ≤ B.slots.size ∧ ∀ i, i < len → ¬ 255 < cv A (o + i)
def E (b : Addr) (A : Cell) (d : Addr) (B : Cell) (o q len : Nat) (r : Option Value) (s u : State) : Prop := r = some (.int (Int32.ofNat len)) ∧ ∃ B', Put d B' s u ∧ Laid B B' q (q + len) (fun j => Value.int (lo8 (cv A (o + (j - q)))))
/-- no char of the range above 255: len; the places written hold each char's low byte -/
theorem law (l : Launch) (b : Addr) (A : Cell) (d : Addr) (B : Cell) (o q len : Nat) : Law l yN 5 5 0 0 yB 7 (some .int) site (P b A d B o q len) (E b A d B o q len) (copyLocs d q len) 0 0 := by
  refine Law.of_walk (plainFor_of_name (by decide +kernel)) (by decide +kernel) (by decide +kernel) (by decide) (fun _ _ h => by rw [h.1]; rfl) (fun _ U U' hal hh h => ⟨h.1, h.2.1.mv hal hh, h.2.2.1.mv hal hh, h.2.2.2⟩) (fun r U U' V V' h1 hal h2 h => ⟨h.1, h.2.elim fun B' q => ⟨B', q.1.mv h1 h2, q.2⟩⟩) ?_
  intro p e s m args below meth c s₁ X0 hexec hbytes hml hret hlk hnm hown hh0 W hP
  obtain ⟨rfl, hA, hB, hne, l1, l2, hp⟩ := hP
  have c1 : Steps p.tables e below (s₁.setTop (entryFrame m #[.ref b, .int (Int32.ofNat o), .ref d, .int (Int32.ofNat q), .int (Int32.ofNat len)] 7)) (s₁.setTop (mkF m 0 #[.val (.ref b), .val (.int (Int32.ofNat o)), .val (.ref d), .val (.int (Int32.ofNat q)), .val (.int (Int32.ofNat len)), .unset, .unset] [])) := entry rfl
  have hA0 := hA.1.mv X0.warmed.alike hh0
  have hB0 := hB.mv X0.warmed.alike hh0
  have a31 := hA.1.2.2.2
  have c2 : Steps p.tables e below (s₁.setTop (entryFrame m #[.ref b, .int (Int32.ofNat o), .ref d, .int (Int32.ofNat q), .int (Int32.ofNat len)] 7)) (s₁.setTop (mkF m 3 #[.val (.ref b), .val (.int (Int32.ofNat o)), .val (.ref d), .val (.int (Int32.ofNat q)), .val (.int (Int32.ofNat len)), .val (.int 0), .unset] [])) := c1.trans (by
    refine iconstV X0.here hexec rfl 0 (hb hbytes d0) (by decide) ?_
    refine XS.istore X0.here hexec rfl (hb hbytes d1) rfl rfl ?_
    exact Steps.refl _)
  have loop : ∀ (r i : Nat), i + r = len → ∀ (z : Slot), (z = .unset ∨ ∃ w, z = .val w ∧ w.category = 1) → ∀ (Tl : State) (Bk : Cell), Stand p l e { frames := 0, locals := 0, cells := 0, slots := 0 } s m #[.ref b, .int (Int32.ofNat o), .ref d, .int (Int32.ofNat q), .int (Int32.ofNat len)] below meth c Tl ([] ++ copyLocs d q i) 0 0 → Put d Bk s₁ Tl → Laid B Bk q (q + i) (fun j => Value.int (lo8 (cv A (o + (j - q))))) →
      Steps p.tables e below (s₁.setTop (entryFrame m #[.ref b, .int (Int32.ofNat o), .ref d, .int (Int32.ofNat q), .int (Int32.ofNat len)] 7)) (Tl.setTop (mkF m 3 #[.val (.ref b), .val (.int (Int32.ofNat (o + i))), .val (.ref d), .val (.int (Int32.ofNat (q + i))), .val (.int (Int32.ofNat len)), .val (.int (Int32.ofNat i)), z] [])) → ∃ (T' : State) (B' : Cell) (z' : Slot), Stand p l e { frames := 0, locals := 0, cells := 0, slots := 0 } s m #[.ref b, .int (Int32.ofNat o), .ref d, .int (Int32.ofNat q), .int (Int32.ofNat len)] below meth c T' ([] ++ copyLocs d q len) 0 0 ∧ Put d B' s₁ T' ∧ Laid B B' q (q + len) (fun j => Value.int (lo8 (cv A (o + (j - q))))) ∧
      Steps p.tables e below (s₁.setTop (entryFrame m #[.ref b, .int (Int32.ofNat o), .ref d, .int (Int32.ofNat q), .int (Int32.ofNat len)] 7)) (T'.setTop (mkF m 3 #[.val (.ref b), .val (.int (Int32.ofNat (o + len))), .val (.ref d), .val (.int (Int32.ofNat (q + len))), .val (.int (Int32.ofNat len)), .val (.int (Int32.ofNat len)), z'] [])) := by
    intro r
    induction r with
    | zero =>
      intro i hi z hz Tl Bk Xl pl fl cl
      have hil : i = len := by omega
      rw [hil] at Xl fl cl
      exact ⟨Tl, Bk, z, Xl, pl, fl, cl⟩
    | succ r ih =>
      intro i hi z hz Tl Bk Xl pl fl cl
      have all := X0.warmed.alike.symm.trans Xl.warmed.alike
      have hAl := hA0.keep all (pl.other hne hA0.1)
      have hBk := hB0.like all pl.1 fl.1 fl.2.1 fl.2.2.1
      have hlt : q + i < Bk.slots.size := by rw [fl.2.2.1]; omega
      have c3 : Steps p.tables e below (s₁.setTop (entryFrame m #[.ref b, .int (Int32.ofNat o), .ref d, .int (Int32.ofNat q), .int (Int32.ofNat len)] 7)) (Tl.setTop (mkF m 12 #[.val (.ref b), .val (.int (Int32.ofNat (o + i))), .val (.ref d), .val (.int (Int32.ofNat (q + i))), .val (.int (Int32.ofNat len)), .val (.int (Int32.ofNat i)), z] [.int (Int32.ofNat (o + i)), .ref b])) := cl.trans (by
        refine XS.iload Xl.here hexec rfl (hb hbytes d3) rfl ?_
        refine XS.iload Xl.here hexec rfl (hb hbytes d5) rfl ?_
        refine XS.icmpNo Xl.here hexec rfl (hb hbytes d7) rfl (ii_ge_f (lt32 (by omega) (by omega))) ?_
        refine XS.aloadN Xl.here hexec rfl (hb hbytes d10) rfl rfl ?_
        refine XS.iloadN Xl.here hexec rfl (hb hbytes d11) rfl ?_
        exact Steps.refl _)
      have c4 : Steps p.tables e below (s₁.setTop (entryFrame m #[.ref b, .int (Int32.ofNat o), .ref d, .int (Int32.ofNat q), .int (Int32.ofNat len)] 7)) (Tl.setTop (mkF m 13 #[.val (.ref b), .val (.int (Int32.ofNat (o + i))), .val (.ref d), .val (.int (Int32.ofNat (q + i))), .val (.int (Int32.ofNat len)), .val (.int (Int32.ofNat i)), z] [.int (cv A (o + i))])) := c3.trans (by
        refine Xl.aget hexec hAl rfl (hA.get (i := o + i) (by omega)) rfl rfl (hb hbytes d12) ?_
        exact Steps.refl _)
      have c5 : Steps p.tables e below (s₁.setTop (entryFrame m #[.ref b, .int (Int32.ofNat o), .ref d, .int (Int32.ofNat q), .int (Int32.ofNat len)] 7)) (Tl.setTop (mkF m 15 #[.val (.ref b), .val (.int (Int32.ofNat (o + i))), .val (.ref d), .val (.int (Int32.ofNat (q + i))), .val (.int (Int32.ofNat len)), .val (.int (Int32.ofNat i)), .val (.int (cv A (o + i)))] [])) := c4.trans (by
        refine XS.istoreS Xl.here hexec rfl (hb hbytes d13) rfl rfl hz ?_
        exact Steps.refl _)
      have c6 : Steps p.tables e below (s₁.setTop (entryFrame m #[.ref b, .int (Int32.ofNat o), .ref d, .int (Int32.ofNat q), .int (Int32.ofNat len)] 7)) (Tl.setTop (mkF m 31 #[.val (.ref b), .val (.int (Int32.ofNat (o + i))), .val (.ref d), .val (.int (Int32.ofNat (q + i))), .val (.int (Int32.ofNat len)), .val (.int (Int32.ofNat i)), .val (.int (cv A (o + i)))] [.int (lo8 (cv A (o + i))), .int (Int32.ofNat (q + i)), .ref d])) := c5.trans (by
        refine XS.iload Xl.here hexec rfl (hb hbytes d15) rfl ?_
        refine sipushV Xl.here hexec rfl 255 (hb hbytes d17) (by decide) ?_
        refine XS.icmpYes Xl.here hexec rfl (pc0 := 20) rfl (hb hbytes d20) rfl (ii_le_t (hp i (by omega))) (by decide) rfl ?_
        refine XS.aloadN Xl.here hexec rfl (hb hbytes d26) rfl rfl ?_
        refine XS.iloadN Xl.here hexec rfl (hb hbytes d27) rfl ?_
        refine XS.iload Xl.here hexec rfl (hb hbytes d28) rfl ?_
        refine i2b Xl.here hexec rfl (hb hbytes d30) rfl ?_
        exact Steps.refl _)
      obtain ⟨T7, X7, p7, st7⟩ := Xl.aput hexec hBk rfl hlt rfl (fits_lo8 (cv A (o + i))) (g := (mkF m 31 #[.val (.ref b), .val (.int (Int32.ofNat (o + i))), .val (.ref d), .val (.int (Int32.ofNat (q + i))), .val (.int (Int32.ofNat len)), .val (.int (Int32.ofNat i)), .val (.int (cv A (o + i)))] [.int (lo8 (cv A (o + i))), .int (Int32.ofNat (q + i)), .ref d])) rfl (rest := []) rfl (hb hbytes d31)
      have c8 : Steps p.tables e below (s₁.setTop (entryFrame m #[.ref b, .int (Int32.ofNat o), .ref d, .int (Int32.ofNat q), .int (Int32.ofNat len)] 7)) (T7.setTop (mkF m 32 #[.val (.ref b), .val (.int (Int32.ofNat (o + i))), .val (.ref d), .val (.int (Int32.ofNat (q + i))), .val (.int (Int32.ofNat len)), .val (.int (Int32.ofNat i)), .val (.int (cv A (o + i)))] [])) := c6.trans (st7 _ (Steps.refl _))
      have c9 : Steps p.tables e below (s₁.setTop (entryFrame m #[.ref b, .int (Int32.ofNat o), .ref d, .int (Int32.ofNat q), .int (Int32.ofNat len)] 7)) (T7.setTop (mkF m 3 #[.val (.ref b), .val (.int (Int32.ofNat (o + i) + 1)), .val (.ref d), .val (.int (Int32.ofNat (q + i) + 1)), .val (.int (Int32.ofNat len)), .val (.int (Int32.ofNat i + 1)), .val (.int (cv A (o + i)))] [])) := c8.trans (by
        refine iincV X7.here hexec rfl 1 (hb hbytes d32) (by decide) rfl rfl ?_
        refine iincV X7.here hexec rfl 1 (hb hbytes d35) (by decide) rfl rfl ?_
        refine iincV X7.here hexec rfl 1 (hb hbytes d38) (by decide) rfl rfl ?_
        refine XS.goto X7.here hexec rfl (pc0 := 41) rfl (hb hbytes d41) (by decide) rfl ?_
        exact Steps.refl _)
      have c10 : Steps p.tables e below (s₁.setTop (entryFrame m #[.ref b, .int (Int32.ofNat o), .ref d, .int (Int32.ofNat q), .int (Int32.ofNat len)] 7)) (T7.setTop (mkF m 3 #[.val (.ref b), .val (.int (Int32.ofNat (o + (i + 1)))), .val (.ref d), .val (.int (Int32.ofNat (q + (i + 1)))), .val (.int (Int32.ofNat len)), .val (.int (Int32.ofNat (i + 1))), .val (.int (cv A (o + i)))] [])) := by
        have := c9
        rw [succ32, succ32, succ32] at this
        exact this
      exact ih (i + 1) (by omega) _ (Or.inr ⟨_, rfl, rfl⟩) T7 _ (by rw [copyLocs_step, ← List.append_assoc]; exact X7) (pl.trans p7) (fl.step (by omega) hlt (by simp)) c10
  obtain ⟨T9, B9, z9, X9, p9, f9, g9⟩ := loop len 0 (by omega) .unset (Or.inl rfl) s₁ B (by simpa [copyLocs] using X0) ⟨hB0.1, fun _ _ => rfl, rfl⟩ (Laid.zero _ _ _) c2
  have c11 : Steps p.tables e below (s₁.setTop (entryFrame m #[.ref b, .int (Int32.ofNat o), .ref d, .int (Int32.ofNat q), .int (Int32.ofNat len)] 7)) (T9.setTop (mkF m 46 #[.val (.ref b), .val (.int (Int32.ofNat (o + len))), .val (.ref d), .val (.int (Int32.ofNat (q + len))), .val (.int (Int32.ofNat len)), .val (.int (Int32.ofNat len)), z9] [.int (Int32.ofNat len)])) := g9.trans (by
    refine XS.iload X9.here hexec rfl (hb hbytes d3) rfl ?_
    refine XS.iload X9.here hexec rfl (hb hbytes d5) rfl ?_
    refine XS.icmpYes X9.here hexec rfl (pc0 := 7) rfl (hb hbytes d7) rfl (ii_ge_t (nlt32 (by omega) (Nat.le_refl _))) (by decide) rfl ?_
    refine XS.iload X9.here hexec rfl (hb hbytes d44) rfl ?_
    exact Steps.refl _)
  exact ⟨T9, some (.int (Int32.ofNat len)), _, _, _, X9, by simp, rfl, rfl, (fun h => by cases h), ⟨rfl, B9, p9.from hh0, f9⟩, fun fs hl => c11.trans (X9.ireturnOut hexec hret rfl (Or.inl rfl) (hb hbytes d46) hl)⟩
end Cmp5
namespace Cmp3
def yN : MethodName := ⟨"java/lang/StringUTF16", "compress", "([CII)[B"⟩
abbrev yB : ByteArray := jdk_52_method_16_code
theorem d0 : decode yB 0 = .ok (.iload_n 2, 1) := by decide +kernel
theorem d1 : decode yB 1 = .ok (.newarray .byte, 2) := by decide +kernel
theorem d3 : decode yB 3 = .ok (.astore_n 3, 1) := by decide +kernel
theorem d4 : decode yB 4 = .ok (.aload_n 0, 1) := by decide +kernel
theorem d5 : decode yB 5 = .ok (.iload_n 1, 1) := by decide +kernel
theorem d6 : decode yB 6 = .ok (.aload_n 3, 1) := by decide +kernel
theorem d7 : decode yB 7 = .ok (.iconst 0, 1) := by decide +kernel
theorem d8 : decode yB 8 = .ok (.iload_n 2, 1) := by decide +kernel
theorem d9 : decode yB 9 = .ok (.invokestatic 115, 3) := by decide +kernel
theorem d12 : decode yB 12 = .ok (.istore 4, 2) := by decide +kernel
theorem d14 : decode yB 14 = .ok (.iload 4, 2) := by decide +kernel
theorem d16 : decode yB 16 = .ok (.iload_n 2, 1) := by decide +kernel
theorem d17 : decode yB 17 = .ok (.if_icmp (.eq) 40, 3) := by decide +kernel
theorem d57 : decode yB 57 = .ok (.aload_n 3, 1) := by decide +kernel
theorem d58 : decode yB 58 = .ok (.areturn, 1) := by decide +kernel
def site : List Cond := [.arrayClass .byte, Cmp5.tab] ++ staticW U16 115 Cmp5.yN
def tab : Cond := tabOf yN yB 6 (some (.array .byte)) site
def P (b : Addr) (A : Cell) (o len : Nat) (args : Array Value) (s : State) : Prop := args = #[.ref b, .int (Int32.ofNat o), .int (Int32.ofNat len)] ∧ Ch b A s ∧ o + len ≤ A.slots.size ∧ len ≤ 536870912 ∧ ∀ i, i < len → ¬ 255 < cv A (o + i)
def E (b : Addr) (A : Cell) (o len : Nat) (r : Option Value) (s u : State) : Prop := NewArr .byte "[B" len (fun j => .int (lo8 (cv A (o + j)))) r s u ∧ u.heap.size = s.heap.size + 1
/-- no char of the range above 255: a new byte[] of their low bytes -/
theorem law (l : Launch) (b : Addr) (A : Cell) (o len : Nat) : Law l yN 3 3 1 18 yB 6 (some (.array .byte)) site (P b A o len) (E b A o len) [] 1 len := by
  refine Law.of_walk (plainFor_of_name (by decide +kernel)) (by decide +kernel) (by decide +kernel) (by decide) (fun _ _ h => by rw [h.1]; rfl) (fun _ U U' hal hh h => ⟨h.1, h.2.1.mv hal hh, h.2.2⟩) (fun r U U' V V' h1 hal h2 h => ⟨NewArr.mv r U U' V V' h1 hal h2 h.1, by rw [h1, h2]; exact h.2⟩) ?_
  intro p e s m args below meth c s₁ X0 hexec hbytes hml hret hlk hnm hown hh0 W hP
  obtain ⟨rfl, hA, l1, l2, hp⟩ := hP
  have a31 := hA.1.2.2.2
  have c1 : Steps p.tables e below (s₁.setTop (entryFrame m #[.ref b, .int (Int32.ofNat o), .int (Int32.ofNat len)] 6)) (s₁.setTop (mkF m 0 #[.val (.ref b), .val (.int (Int32.ofNat o)), .val (.int (Int32.ofNat len)), .unset, .unset, .unset] [])) := entry rfl
  have c2 : Steps p.tables e below (s₁.setTop (entryFrame m #[.ref b, .int (Int32.ofNat o), .int (Int32.ofNat len)] 6)) (s₁.setTop (mkF m 1 #[.val (.ref b), .val (.int (Int32.ofNat o)), .val (.int (Int32.ofNat len)), .unset, .unset, .unset] [.int (Int32.ofNat len)])) := c1.trans (by
    refine XS.iloadN X0.here hexec rfl (hb hbytes d0) rfl ?_
    exact Steps.refl _)
  obtain ⟨T3, B3, X3, ba3, bs3, bv3, bh3, bf3, st3⟩ := X0.anew hexec (atype := .byte) (wk W (.arrayClass .byte)) rfl (by show len * 1 ≤ _; omega) (by omega) (g := (mkF m 1 #[.val (.ref b), .val (.int (Int32.ofNat o)), .val (.int (Int32.ofNat len)), .unset, .unset, .unset] [.int (Int32.ofNat len)])) rfl (hb hbytes d1) (rest := []) rfl (Nat.le_refl _) (by show 0 + len ≤ len; omega)
  rw [hh0] at ba3 st3
  have kp3 : XT.Kept s T3 := (XT.Kept.of_eq hh0).push bh3
  have hA3 := hA.keep X3.warmed.alike (kp3 _ _ hA.1.1)
  have hne : b ≠ s.heap.size := hA.1.ne
  have c4 : Steps p.tables e below (s₁.setTop (entryFrame m #[.ref b, .int (Int32.ofNat o), .int (Int32.ofNat len)] 6)) (T3.setTop (mkF m 3 #[.val (.ref b), .val (.int (Int32.ofNat o)), .val (.int (Int32.ofNat len)), .unset, .unset, .unset] [.ref s.heap.size])) := c2.trans (st3 _ (Steps.refl _))
  have c5 : Steps p.tables e below (s₁.setTop (entryFrame m #[.ref b, .int (Int32.ofNat o), .int (Int32.ofNat len)] 6)) (T3.setTop (mkF m 9 #[.val (.ref b), .val (.int (Int32.ofNat o)), .val (.int (Int32.ofNat len)), .val (.ref s.heap.size), .unset, .unset] [.int (Int32.ofNat len), .int 0, .ref s.heap.size, .int (Int32.ofNat o), .ref b])) := c4.trans (by
    refine XS.astoreN X3.here hexec rfl (hb hbytes d3) rfl rfl rfl ?_
    refine XS.aloadN X3.here hexec rfl (hb hbytes d4) rfl rfl ?_
    refine XS.iloadN X3.here hexec rfl (hb hbytes d5) rfl ?_
    refine XS.aloadN X3.here hexec rfl (hb hbytes d6) rfl rfl ?_
    refine iconstV X3.here hexec rfl 0 (hb hbytes d7) (by decide) ?_
    refine XS.iloadN X3.here hexec rfl (hb hbytes d8) rfl ?_
    exact Steps.refl _)
  obtain ⟨v6, T6, X6, E6, g6⟩ := X3.callS hexec (Cmp5.law l b A s.heap.size B3 o 0 len) hown (wks W (staticW U16 115 Cmp5.yN)) (wk W Cmp5.tab) (W := 0) (Nat.le_of_ble_eq_true rfl) (Nat.le_of_ble_eq_true rfl) (Nat.le_refl _) (by show 0 + len + 0 ≤ len; omega) (g := (mkF m 9 #[.val (.ref b), .val (.int (Int32.ofNat o)), .val (.int (Int32.ofNat len)), .val (.ref s.heap.size), .unset, .unset] [.int (Int32.ofNat len), .int (Int32.ofNat 0), .ref s.heap.size, .int (Int32.ofNat o), .ref b])) rfl (by rw [hml]; rfl) c5 (argsL := [.ref b, .int (Int32.ofNat o), .ref s.heap.size, .int (Int32.ofNat 0), .int (Int32.ofNat len)]) (rest := []) rfl rfl (by show 2 * 0 + 0 ≤ _; decide) (hb hbytes d9) (⟨rfl, hA3, ba3, hne, l1, by rw [bs3]; simp, hp⟩)
  obtain ⟨rfl, B6, p6, f6⟩ := E6
  have c7 : Steps p.tables e below (s₁.setTop (entryFrame m #[.ref b, .int (Int32.ofNat o), .int (Int32.ofNat len)] 6)) (T6.setTop (mkF m 12 #[.val (.ref b), .val (.int (Int32.ofNat o)), .val (.int (Int32.ofNat len)), .val (.ref s.heap.size), .unset, .unset] [.int (Int32.ofNat len)])) := g6
  have c8 : Steps p.tables e below (s₁.setTop (entryFrame m #[.ref b, .int (Int32.ofNat o), .int (Int32.ofNat len)] 6)) (T6.setTop (mkF m 58 #[.val (.ref b), .val (.int (Int32.ofNat o)), .val (.int (Int32.ofNat len)), .val (.ref s.heap.size), .val (.int (Int32.ofNat len)), .unset] [.ref s.heap.size])) := c7.trans (by
    refine XS.istore X6.here hexec rfl (hb hbytes d12) rfl rfl ?_
    refine XS.iload X6.here hexec rfl (hb hbytes d14) rfl ?_
    refine XS.iloadN X6.here hexec rfl (hb hbytes d16) rfl ?_
    refine XS.icmpYes X6.here hexec rfl (pc0 := 17) rfl (hb hbytes d17) rfl (ii_eq_t rfl) (by decide) rfl ?_
    refine XS.aloadN X6.here hexec rfl (hb hbytes d57) rfl rfl ?_
    exact Steps.refl _)
  have X8 := X6.wide (L' := []) (cells' := 1) (slots' := len) (fun x hx hlt => by
    simp only [List.nil_append, copyLocs, List.mem_map, List.mem_range] at hx
    obtain ⟨i, -, rfl⟩ := hx
    exact absurd hlt (Nat.lt_irrefl _)) (Nat.le_refl _) (by omega)
  exact ⟨T6, some (.ref s.heap.size), _, _, _, X8, rfl, rfl, rfl, (fun h => by cases h), ⟨⟨rfl, B6, ba3.like (X3.warmed.alike.symm.trans X6.warmed.alike) p6.1 f6.1 f6.2.1 f6.2.2.1, f6.2.1.trans bv3, by rw [X6.warmed.alike.findClass, f6.1]; exact bf3, by rw [f6.2.2.1, bs3]; simp, fun j hj => by rw [f6.2.2.2 j, if_pos (by omega)]; rfl, kp3.put p6 (Nat.le_refl _)⟩, by rw [p6.2.2, bh3, hh0]; simp⟩, fun fs hl => c8.trans (X8.areturnOut hexec rfl hret rfl (hb hbytes d58) hl)⟩
end Cmp3
namespace CodL
def yN : MethodName := ⟨"java/lang/StringUTF16", "coderFromArrayLen", "([BI)B"⟩
abbrev yB : ByteArray := jdk_52_method_15_code
theorem d0 : decode yB 0 = .ok (.iload_n 1, 1) := by decide +kernel
theorem d1 : decode yB 1 = .ok (.aload_n 0, 1) := by decide +kernel
theorem d2 : decode yB 2 = .ok (.arraylength, 1) := by decide +kernel
theorem d3 : decode yB 3 = .ok (.isub, 1) := by decide +kernel
theorem d4 : decode yB 4 = .ok (.bipush 31, 2) := by decide +kernel
theorem d6 : decode yB 6 = .ok (.iushr, 1) := by decide +kernel
theorem d7 : decode yB 7 = .ok (.i2b, 1) := by decide +kernel
theorem d8 : decode yB 8 = .ok (.ireturn, 1) := by decide +kernel
def site : List Cond := []
def tab : Cond := tabOf yN yB 2 (some .byte) site
def P (d : Addr) (B : Cell) (args : Array Value) (s : State) : Prop := args = #[.ref d, .int (Int32.ofNat B.slots.size)] ∧ Arr .byte d B s
def E (r : Option Value) (s u : State) : Prop := XT.PureE (some (.int 0)) r s u
/-- an array as long as the number of chars: LATIN1 -/
theorem law (l : Launch) (d : Addr) (B : Cell) : Law l yN 2 2 0 0 yB 2 (some .byte) site (P d B) E [] 0 0 := by
  refine Law.of_walk (plainFor_of_name (by decide +kernel)) (by decide +kernel) (by decide +kernel) (by decide) (fun _ _ h => by rw [h.1]; rfl) (fun _ U U' hal hh h => ⟨h.1, h.2.mv hal hh⟩) (fun r U U' V V' h1 hal h2 h => XT.PureE.mv r U U' V V' h1 hal h2 h) ?_
  intro p e s m args below meth c s₁ X0 hexec hbytes hml hret hlk hnm hown hh0 W hP
  obtain ⟨rfl, hB⟩ := hP
  have hB0 := hB.mv X0.warmed.alike hh0
  have c1 : Steps p.tables e below (s₁.setTop (entryFrame m #[.ref d, .int (Int32.ofNat B.slots.size)] 2)) (s₁.setTop (mkF m 0 #[.val (.ref d), .val (.int (Int32.ofNat B.slots.size))] [])) := entry rfl
  have c2 : Steps p.tables e below (s₁.setTop (entryFrame m #[.ref d, .int (Int32.ofNat B.slots.size)] 2)) (s₁.setTop (mkF m 2 #[.val (.ref d), .val (.int (Int32.ofNat B.slots.size))] [.ref d, .int (Int32.ofNat B.slots.size)])) := c1.trans (by
    refine XS.iloadN X0.here hexec rfl (hb hbytes d0) rfl ?_
    refine XS.aloadN X0.here hexec rfl (hb hbytes d1) rfl rfl ?_
    exact Steps.refl _)
  have c3 : Steps p.tables e below (s₁.setTop (entryFrame m #[.ref d, .int (Int32.ofNat B.slots.size)] 2)) (s₁.setTop (mkF m 8 #[.val (.ref d), .val (.int (Int32.ofNat B.slots.size))] [.int (lo8 (ushr (Int32.ofNat B.slots.size - Int32.ofNat B.slots.size) 31))])) := c2.trans (by
    refine X0.alen hexec hB0 rfl rfl (hb hbytes d2) ?_
    refine XS.isub X0.here hexec rfl (hb hbytes d3) rfl ?_
    refine bipushV X0.here hexec rfl 31 (hb hbytes d4) (by decide) ?_
    refine iushr X0.here hexec rfl (hb hbytes d6) rfl ?_
    refine i2b X0.here hexec rfl (hb hbytes d7) rfl ?_
    exact Steps.refl _)
  have e0 : lo8 (ushr (Int32.ofNat B.slots.size - Int32.ofNat B.slots.size) 31) = 0 := by rw [Int32.sub_self]; decide
  rw [e0] at c3
  exact ⟨s₁, some (.int 0), _, _, _, X0, rfl, rfl, rfl, (fun h => by cases h), ⟨rfl, hh0⟩, fun fs hl => c3.trans (X0.ireturnOut hexec hret rfl (Or.inr (Or.inr (Or.inl rfl))) (hb hbytes d8) hl)⟩
end CodL
/-- the String at a is Latin-1 over a new byte[] (the heap's one new cell): the low bytes of the len chars of A from o on; every cell but a is kept -/
def Got (a : Addr) (D : Cell) (fV fC : Field) (A : Cell) (o len : Nat) (r : Option Value) (s u : State) : Prop := r = none ∧ ∃ D' V : Cell, Blank "java/lang/String" a D' u ∧ Same D D' [fV.slot, fC.slot] ∧ D'.slots[fV.slot]? = some (.ref s.heap.size) ∧ D'.slots[fC.slot]? = some (.int 0) ∧ Arr .byte s.heap.size V u ∧ V.vm = .none ∧ u.vm.findClass "[B" = some V.cls ∧ V.slots.size = len ∧ (∀ j, j < len → V.slots[j]? = some (.int (lo8 (cv A (o + j))))) ∧ (∀ (y : Addr) (c : Cell), y ≠ a → s.heap[y]? = some c → u.heap[y]? = some c) ∧ u.heap.size = s.heap.size + 1
theorem Got.mv {a : Addr} {D A : Cell} {fV fC : Field} {o len : Nat} : ∀ r (U U' V V' : State), U'.heap = U.heap → V.vm.Alike V'.vm → V'.heap = V.heap → Got a D fV fC A o len r U V → Got a D fV fC A o len r U' V' :=
  fun r U U' V V' h1 hal h2 ⟨e0, D', X, a1, a2, a3, a4, a5, a6, a7, a8, a9, a10, a11⟩ => ⟨e0, D', X, a1.mv hal h2, a2, by rw [h1]; exact a3, a4, by rw [h1]; exact a5.mv hal h2, a6, by rw [hal.findClass]; exact a7, a8, a9, by rw [h1, h2]; exact a10, by rw [h1, h2]; exact a11⟩
namespace New4
def yN : MethodName := ⟨"java/lang/String", "<init>", "([CIILjava/lang/Void;)V"⟩
abbrev yB : ByteArray := jdk_42_method_149_code
theorem d0 : decode yB 0 = .ok (.aload_n 0, 1) := by decide +kernel
theorem d1 : decode yB 1 = .ok (.invokespecial 1, 3) := by decide +kernel
theorem d4 : decode yB 4 = .ok (.iload_n 3, 1) := by decide +kernel
theorem d5 : decode yB 5 = .ok (.ifCond (.ne) 22, 3) := by decide +kernel
theorem d27 : decode yB 27 = .ok (.getstatic 38, 3) := by decide +kernel
theorem d30 : decode yB 30 = .ok (.ifCond (.eq) 28, 3) := by decide +kernel
theorem d33 : decode yB 33 = .ok (.aload_n 1, 1) := by decide +kernel
theorem d34 : decode yB 34 = .ok (.iload_n 2, 1) := by decide +kernel
theorem d35 : decode yB 35 = .ok (.iload_n 3, 1) := by decide +kernel
theorem d36 : decode yB 36 = .ok (.invokestatic 177, 3) := by decide +kernel
theorem d39 : decode yB 39 = .ok (.astore 5, 2) := by decide +kernel
theorem d41 : decode yB 41 = .ok (.aload_n 0, 1) := by decide +kernel
theorem d42 : decode yB 42 = .ok (.aload 5, 2) := by decide +kernel
theorem d44 : decode yB 44 = .ok (.iload_n 3, 1) := by decide +kernel
theorem d45 : decode yB 45 = .ok (.invokestatic 47, 3) := by decide +kernel
theorem d48 : decode yB 48 = .ok (.putfield 15, 3) := by decide +kernel
theorem d51 : decode yB 51 = .ok (.aload_n 0, 1) := by decide +kernel
theorem d52 : decode yB 52 = .ok (.aload 5, 2) := by decide +kernel
theorem d54 : decode yB 54 = .ok (.putfield 9, 3) := by decide +kernel
theorem d57 : decode yB 57 = .ok (.return_, 1) := by decide +kernel
def site : List Cond := [.fieldLink "java/lang/String" 38 "java/lang/String" "COMPACT_STRINGS" "Z", Cmp3.tab, CodL.tab, .laysFinal "java/lang/String" "java/lang/String" "value" "[B", .fieldLink "java/lang/String" 9 "java/lang/String" "value" "[B", .laysFinal "java/lang/String" "java/lang/String" "coder" "B", .fieldLink "java/lang/String" 15 "java/lang/String" "coder" "B"] ++ objW "java/lang/String" 1 ++ staticW "java/lang/String" 177 Cmp3.yN ++ staticW "java/lang/String" 47 CodL.yN
def tab : Cond := tabOf yN yB 6 none site
def P (a : Addr) (D : Cell) (fV fC : Field) (b : Addr) (A : Cell) (z : Int32) (o len : Nat) (args : Array Value) (s : State) : Prop := args = #[.ref a, .ref b, .int (Int32.ofNat o), .int (Int32.ofNat len), .null] ∧ Blank "java/lang/String" a D s ∧ Found "java/lang/String" "value" "[B" fV s ∧ Found "java/lang/String" "coder" "B" fC s ∧ Ch b A s ∧ StaticIs s "java/lang/String" "COMPACT_STRINGS" "Z" (.int z) ∧ ¬ z = 0 ∧ 0 < len ∧ o + len ≤ A.slots.size ∧ len ≤ 536870912 ∧ ∀ i, i < len → ¬ 255 < cv A (o + i)
def E (a : Addr) (D : Cell) (fV fC : Field) (A : Cell) (o len : Nat) (r : Option Value) (s u : State) : Prop := Got a D fV fC A o len r s u
/-- len > 0, no char of the range above 255: a Latin-1 String of their low bytes -/
theorem law (l : Launch) (a : Addr) (D : Cell) (fV fC : Field) (b : Addr) (A : Cell) (z : Int32) (o len : Nat) : Law l yN 5 4 2 35 yB 6 none site (P a D fV fC b A z o len) (E a D fV fC A o len) [⟨a, fC.slot⟩, ⟨a, fV.slot⟩] 1 len := by
  refine Law.of_walk (plainFor_of_name (by decide +kernel)) (by decide +kernel) (by decide +kernel) (by decide) (fun _ _ h => by rw [h.1]; rfl) (fun _ U U' hal hh h => ⟨h.1, h.2.1.mv hal hh, h.2.2.1.al hal, h.2.2.2.1.al hal, h.2.2.2.2.1.mv hal hh, h.2.2.2.2.2.1.there hal hh, h.2.2.2.2.2.2⟩) (fun r U U' V V' h1 hal h2 h => Got.mv r U U' V V' h1 hal h2 h) ?_
  intro p e s m args below meth c s₁ X0 hexec hbytes hml hret hlk hnm hown hh0 W hP
  obtain ⟨rfl, hB, f1, f2, hA, s1, hz, l0, l1, l2, hp⟩ := hP
  have a31 := hA.1.2.2.2
  have c1 : Steps p.tables e below (s₁.setTop (entryFrame m #[.ref a, .ref b, .int (Int32.ofNat o), .int (Int32.ofNat len), .null] 6)) (s₁.setTop (mkF m 0 #[.val (.ref a), .val (.ref b), .val (.int (Int32.ofNat o)), .val (.int (Int32.ofNat len)), .val .null, .unset] [])) := entry rfl
  have c2 : Steps p.tables e below (s₁.setTop (entryFrame m #[.ref a, .ref b, .int (Int32.ofNat o), .int (Int32.ofNat len), .null] 6)) (s₁.setTop (mkF m 1 #[.val (.ref a), .val (.ref b), .val (.int (Int32.ofNat o)), .val (.int (Int32.ofNat len)), .val .null, .unset] [.ref a])) := c1.trans (by
    refine XS.aloadN X0.here hexec rfl (hb hbytes d0) rfl rfl ?_
    exact Steps.refl _)
  obtain ⟨T3, X3, q3, st3⟩ := X0.oinit hexec hown (wks W (objW "java/lang/String" 1)) (g := (mkF m 1 #[.val (.ref a), .val (.ref b), .val (.int (Int32.ofNat o)), .val (.int (Int32.ofNat len)), .val .null, .unset] [.ref a])) rfl (by rw [hml]; rfl) (rest := []) rfl (hb hbytes d1) (W := 0) (by show 2 * 0 + 0 ≤ _; decide) (Nat.le_of_ble_eq_true rfl) (Nat.le_of_ble_eq_true rfl)
  have hh3 := q3.trans hh0
  have c4 : Steps p.tables e below (s₁.setTop (entryFrame m #[.ref a, .ref b, .int (Int32.ofNat o), .int (Int32.ofNat len), .null] 6)) (T3.setTop (mkF m 27 #[.val (.ref a), .val (.ref b), .val (.int (Int32.ofNat o)), .val (.int (Int32.ofNat len)), .val .null, .unset] [])) := (c2.trans (st3 _ (Steps.refl _))).trans (by
    refine XS.iloadN X3.here hexec rfl (hb hbytes d4) rfl ?_
    refine XS.ifYes X3.here hexec rfl (pc0 := 5) rfl (hb hbytes d5) rfl (i0_ne_t (nz32 (by omega) l0)) (by decide) rfl ?_
    exact Steps.refl _)
  obtain ⟨T5, X5, q5, st5⟩ := X3.sget hexec hown (wk W (.fieldLink "java/lang/String" 38 "java/lang/String" "COMPACT_STRINGS" "Z")) s1 (fun _ _ h => by rw [hh3]; exact h) (g := (mkF m 27 #[.val (.ref a), .val (.ref b), .val (.int (Int32.ofNat o)), .val (.int (Int32.ofNat len)), .val .null, .unset] [])) rfl (hb hbytes d27)
  have hh5 := q5.trans hh3
  have c6 : Steps p.tables e below (s₁.setTop (entryFrame m #[.ref a, .ref b, .int (Int32.ofNat o), .int (Int32.ofNat len), .null] 6)) (T5.setTop (mkF m 30 #[.val (.ref a), .val (.ref b), .val (.int (Int32.ofNat o)), .val (.int (Int32.ofNat len)), .val .null, .unset] [.int z])) := c4.trans (st5 _ (Steps.refl _))
  have c7 : Steps p.tables e below (s₁.setTop (entryFrame m #[.ref a, .ref b, .int (Int32.ofNat o), .int (Int32.ofNat len), .null] 6)) (T5.setTop (mkF m 36 #[.val (.ref a), .val (.ref b), .val (.int (Int32.ofNat o)), .val (.int (Int32.ofNat len)), .val .null, .unset] [.int (Int32.ofNat len), .int (Int32.ofNat o), .ref b])) := c6.trans (by
    refine XS.ifNo X5.here hexec rfl (hb hbytes d30) rfl (i0_eq_f hz) ?_
    refine XS.aloadN X5.here hexec rfl (hb hbytes d33) rfl rfl ?_
    refine XS.iloadN X5.here hexec rfl (hb hbytes d34) rfl ?_
    refine XS.iloadN X5.here hexec rfl (hb hbytes d35) rfl ?_
    exact Steps.refl _)
  obtain ⟨v8, T8, X8, E8, g8⟩ := X5.callS hexec (Cmp3.law l b A o len) hown (wks W (staticW "java/lang/String" 177 Cmp3.yN)) (wk W Cmp3.tab) (W := 0) (Nat.le_of_ble_eq_true rfl) (Nat.le_of_ble_eq_true rfl) (Nat.le_refl _) (by show 0 + len ≤ len; omega) (g := (mkF m 36 #[.val (.ref a), .val (.ref b), .val (.int (Int32.ofNat o)), .val (.int (Int32.ofNat len)), .val .null, .unset] [.int (Int32.ofNat len), .int (Int32.ofNat o), .ref b])) rfl (by rw [hml]; rfl) c7 (argsL := [.ref b, .int (Int32.ofNat o), .int (Int32.ofNat len)]) (rest := []) rfl rfl (by show 2 * 0 + 0 ≤ _; decide) (hb hbytes d36) (⟨rfl, hA.mv X5.warmed.alike hh5, l1, l2, hp⟩)
  obtain ⟨e8, z8⟩ := E8
  obtain ⟨rfl, N, n1, n2, n3, n4, n5, n6⟩ := NewArr.mv _ T5 s _ _ hh5.symm (Vm.Alike.refl _) rfl e8
  rw [hh5] at z8
  have hB1 := hB.keep X8.warmed.alike (n6 _ _ hB.1)
  have hne : s.heap.size ≠ a := (Nat.ne_of_lt (Array.getElem?_eq_some_iff.mp hB.1).1).symm
  have c9 : Steps p.tables e below (s₁.setTop (entryFrame m #[.ref a, .ref b, .int (Int32.ofNat o), .int (Int32.ofNat len), .null] 6)) (T8.setTop (mkF m 39 #[.val (.ref a), .val (.ref b), .val (.int (Int32.ofNat o)), .val (.int (Int32.ofNat len)), .val .null, .unset] [.ref s.heap.size])) := g8
  have c10 : Steps p.tables e below (s₁.setTop (entryFrame m #[.ref a, .ref b, .int (Int32.ofNat o), .int (Int32.ofNat len), .null] 6)) (T8.setTop (mkF m 45 #[.val (.ref a), .val (.ref b), .val (.int (Int32.ofNat o)), .val (.int (Int32.ofNat len)), .val .null, .val (.ref s.heap.size)] [.int (Int32.ofNat N.slots.size), .ref s.heap.size, .ref a])) := by
    have hc : Steps p.tables e below (s₁.setTop (entryFrame m #[.ref a, .ref b, .int (Int32.ofNat o), .int (Int32.ofNat len), .null] 6)) (T8.setTop (mkF m 45 #[.val (.ref a), .val (.ref b), .val (.int (Int32.ofNat o)), .val (.int (Int32.ofNat len)), .val .null, .val (.ref s.heap.size)] [.int (Int32.ofNat len), .ref s.heap.size, .ref a])) := c9.trans (by
      refine XS.astore X8.here hexec rfl (hb hbytes d39) rfl rfl rfl ?_
      refine XS.aloadN X8.here hexec rfl (hb hbytes d41) rfl rfl ?_
      refine XS.aload X8.here hexec rfl (hb hbytes d42) rfl rfl ?_
      refine XS.iloadN X8.here hexec rfl (hb hbytes d44) rfl ?_
      exact Steps.refl _)
    rw [n4]; exact hc
  obtain ⟨v11, T11, X11, E11, g11⟩ := X8.callS hexec (CodL.law l s.heap.size N) hown (wks W (staticW "java/lang/String" 47 CodL.yN)) (wk W CodL.tab) (W := 1) (Nat.le_of_ble_eq_true rfl) (Nat.le_of_ble_eq_true rfl) (Nat.le_refl _) (by show 0 + len + 0 ≤ len; omega) (g := (mkF m 45 #[.val (.ref a), .val (.ref b), .val (.int (Int32.ofNat o)), .val (.int (Int32.ofNat len)), .val .null, .val (.ref s.heap.size)] [.int (Int32.ofNat N.slots.size), .ref s.heap.size, .ref a])) rfl (by rw [hml]; rfl) c10 (argsL := [.ref s.heap.size, .int (Int32.ofNat N.slots.size)]) (rest := [.ref a]) rfl rfl (by show 2 * 0 + (1 + 0) ≤ _; decide) (hb hbytes d45) (⟨rfl, n1⟩)
  obtain ⟨rfl, q11⟩ := E11
  have hB11 := hB1.mv (X8.warmed.alike.symm.trans X11.warmed.alike) q11
  have c12 : Steps p.tables e below (s₁.setTop (entryFrame m #[.ref a, .ref b, .int (Int32.ofNat o), .int (Int32.ofNat len), .null] 6)) (T11.setTop (mkF m 48 #[.val (.ref a), .val (.ref b), .val (.int (Int32.ofNat o)), .val (.int (Int32.ofNat len)), .val .null, .val (.ref s.heap.size)] [.int 0, .ref a])) := g11
  obtain ⟨T13, X13, p13, bl13, sl13, st13⟩ := X11.finit hexec hown (wk W (.fieldLink "java/lang/String" 15 "java/lang/String" "coder" "B")) (Or.inr ⟨_, (wk W (.laysFinal "java/lang/String" "java/lang/String" "coder" "B"))⟩) (Or.inl ⟨rfl, hnm⟩) f2 (Or.inl rfl) hB11 (t := .byte) (by decide +kernel) rfl (g := (mkF m 48 #[.val (.ref a), .val (.ref b), .val (.int (Int32.ofNat o)), .val (.int (Int32.ofNat len)), .val .null, .val (.ref s.heap.size)] [.int 0, .ref a])) rfl (rest := []) rfl (hb hbytes d48)
  have c14 : Steps p.tables e below (s₁.setTop (entryFrame m #[.ref a, .ref b, .int (Int32.ofNat o), .int (Int32.ofNat len), .null] 6)) (T13.setTop (mkF m 54 #[.val (.ref a), .val (.ref b), .val (.int (Int32.ofNat o)), .val (.int (Int32.ofNat len)), .val .null, .val (.ref s.heap.size)] [.ref s.heap.size, .ref a])) := (c12.trans (st13 _ (Steps.refl _))).trans (by
    refine XS.aloadN X13.here hexec rfl (hb hbytes d51) rfl rfl ?_
    refine XS.aload X13.here hexec rfl (hb hbytes d52) rfl rfl ?_
    exact Steps.refl _)
  obtain ⟨T15, X15, p15, bl15, sl15, st15⟩ := X13.finit hexec hown (wk W (.fieldLink "java/lang/String" 9 "java/lang/String" "value" "[B")) (Or.inr ⟨_, (wk W (.laysFinal "java/lang/String" "java/lang/String" "value" "[B"))⟩) (Or.inl ⟨rfl, hnm⟩) f1 (Or.inl rfl) bl13 (t := (.array .byte)) (by decide +kernel) rfl (g := (mkF m 54 #[.val (.ref a), .val (.ref b), .val (.int (Int32.ofNat o)), .val (.int (Int32.ofNat len)), .val .null, .val (.ref s.heap.size)] [.ref s.heap.size, .ref a])) rfl (rest := []) rfl (hb hbytes d54)
  have c16 : Steps p.tables e below (s₁.setTop (entryFrame m #[.ref a, .ref b, .int (Int32.ofNat o), .int (Int32.ofNat len), .null] 6)) (T15.setTop (mkF m 57 #[.val (.ref a), .val (.ref b), .val (.int (Int32.ofNat o)), .val (.int (Int32.ofNat len)), .val .null, .val (.ref s.heap.size)] [])) := c14.trans (st15 _ (Steps.refl _))
  have ap := apart (Or.inr ⟨_, (wk W (.laysFinal "java/lang/String" "java/lang/String" "value" "[B"))⟩) (Or.inr ⟨_, (wk W (.laysFinal "java/lang/String" "java/lang/String" "coder" "B"))⟩) f1 f2 (t₁ := .array .byte) (t₂ := .byte) (by decide +kernel) (by decide +kernel) (by decide)
  have al := X8.warmed.alike.symm.trans X15.warmed.alike
  have n7 : T11.heap[s.heap.size]? = some N := by rw [q11]; exact n1.1
  exact ⟨T15, none, _, _, _, X15, by simp, rfl, by omega, (fun _ => rfl), ⟨rfl, _, N, bl15, ((Same.refl D _).set _ (by simp)).set _ (by simp), sl15, (Cell.slots_setSlot_ne _ ap).trans sl13, n1.keep al (p15.other hne (p13.other hne n7)), n2, by rw [al.findClass]; exact n3, n4, n5, fun y c h1 h2 => p15.other h1 (p13.other h1 (by rw [q11]; exact n6 y c h2)), by rw [p15.2.2, p13.2.2, q11]; exact z8⟩, fun fs hl => c16.trans (X15.returnOut hexec hret (hb hbytes d57) hl)⟩
end New4
namespace New1
def yN : MethodName := ⟨"java/lang/String", "<init>", "([C)V"⟩
abbrev yB : ByteArray := jdk_42_method_3_code
theorem d0 : decode yB 0 = .ok (.aload_n 0, 1) := by decide +kernel
theorem d1 : decode yB 1 = .ok (.aload_n 1, 1) := by decide +kernel
theorem d2 : decode yB 2 = .ok (.iconst 0, 1) := by decide +kernel
theorem d3 : decode yB 3 = .ok (.aload_n 1, 1) := by decide +kernel
theorem d4 : decode yB 4 = .ok (.arraylength, 1) := by decide +kernel
theorem d5 : decode yB 5 = .ok (.aconst_null, 1) := by decide +kernel
theorem d6 : decode yB 6 = .ok (.invokespecial 27, 3) := by decide +kernel
theorem d9 : decode yB 9 = .ok (.return_, 1) := by decide +kernel
def site : List Cond := [New4.tab] ++ initW "java/lang/String" 27 New4.yN
def tab : Cond := tabOf yN yB 2 none site
def P (a : Addr) (D : Cell) (fV fC : Field) (b : Addr) (A : Cell) (z : Int32) (args : Array Value) (s : State) : Prop := args = #[.ref a, .ref b] ∧ Blank "java/lang/String" a D s ∧ Found "java/lang/String" "value" "[B" fV s ∧ Found "java/lang/String" "coder" "B" fC s ∧ Ch b A s ∧ StaticIs s "java/lang/String" "COMPACT_STRINGS" "Z" (.int z) ∧ ¬ z = 0 ∧ 0 < A.slots.size ∧ A.slots.size ≤ 536870912 ∧ ∀ i, i < A.slots.size → ¬ 255 < cv A i
def E (a : Addr) (D : Cell) (fV fC : Field) (A : Cell) (r : Option Value) (s u : State) : Prop := Got a D fV fC A 0 A.slots.size r s u
/-- new String(chars), not empty, no char above 255: a Latin-1 String of their low bytes -/
theorem law (l : Launch) (a : Addr) (D : Cell) (fV fC : Field) (b : Addr) (A : Cell) (z : Int32) : Law l yN 2 1 3 52 yB 2 none site (P a D fV fC b A z) (E a D fV fC A) [⟨a, fC.slot⟩, ⟨a, fV.slot⟩] 1 A.slots.size := by
  refine Law.of_walk (plainFor_of_name (by decide +kernel)) (by decide +kernel) (by decide +kernel) (by decide) (fun _ _ h => by rw [h.1]; rfl) (fun _ U U' hal hh h => ⟨h.1, h.2.1.mv hal hh, h.2.2.1.al hal, h.2.2.2.1.al hal, h.2.2.2.2.1.mv hal hh, h.2.2.2.2.2.1.there hal hh, h.2.2.2.2.2.2⟩) (fun r U U' V V' h1 hal h2 h => Got.mv r U U' V V' h1 hal h2 h) ?_
  intro p e s m args below meth c s₁ X0 hexec hbytes hml hret hlk hnm hown hh0 W hP
  obtain ⟨rfl, hB, f1, f2, hA, s1, hz, l0, l2, hp⟩ := hP
  have c1 : Steps p.tables e below (s₁.setTop (entryFrame m #[.ref a, .ref b] 2)) (s₁.setTop (mkF m 0 #[.val (.ref a), .val (.ref b)] [])) := entry rfl
  have c2 : Steps p.tables e below (s₁.setTop (entryFrame m #[.ref a, .ref b] 2)) (s₁.setTop (mkF m 6 #[.val (.ref a), .val (.ref b)] [.null, .int (Int32.ofNat A.slots.size), .int 0, .ref b, .ref a])) := c1.trans (by
    refine XS.aloadN X0.here hexec rfl (hb hbytes d0) rfl rfl ?_
    refine XS.aloadN X0.here hexec rfl (hb hbytes d1) rfl rfl ?_
    refine iconstV X0.here hexec rfl 0 (hb hbytes d2) (by decide) ?_
    refine XS.aloadN X0.here hexec rfl (hb hbytes d3) rfl rfl ?_
    refine X0.alen hexec (hA.1.mv X0.warmed.alike hh0) rfl rfl (hb hbytes d4) ?_
    refine XS.aconstNull X0.here hexec rfl (hb hbytes d5) ?_
    exact Steps.refl _)
  obtain ⟨v3, T3, X3, E3, g3⟩ := X0.callN hexec (New4.law l a D fV fC b A z 0 A.slots.size) rfl hown (wks W (initW "java/lang/String" 27 New4.yN)) (W New4.tab (by simp only [site, List.mem_cons, List.mem_append, true_or, or_true])) (W := 0) (Nat.le_of_ble_eq_true rfl) (Nat.le_of_ble_eq_true rfl) (Nat.le_refl _) (by show 0 + A.slots.size ≤ A.slots.size; omega) (g := (mkF m 6 #[.val (.ref a), .val (.ref b)] [.null, .int (Int32.ofNat A.slots.size), .int (Int32.ofNat 0), .ref b, .ref a])) rfl (by rw [hml]; rfl) c2 (argsL := [.ref b, .int (Int32.ofNat 0), .int (Int32.ofNat A.slots.size), .null]) (rest := []) rfl rfl (by show 2 * 0 + 0 ≤ _; decide) (hb hbytes d6) (⟨rfl, hB.mv X0.warmed.alike hh0, f1.al X0.warmed.alike, f2.al X0.warmed.alike, hA.mv X0.warmed.alike hh0, s1.there X0.warmed.alike hh0, hz, l0, by omega, l2, fun i hi => by rw [Nat.zero_add]; exact hp i hi⟩)
  have e0 := Got.mv _ s₁ s _ _ hh0.symm (Vm.Alike.refl _) rfl E3
  obtain rfl := e0.1
  have c4 : Steps p.tables e below (s₁.setTop (entryFrame m #[.ref a, .ref b] 2)) (T3.setTop (mkF m 9 #[.val (.ref a), .val (.ref b)] [])) := g3
  exact ⟨T3, none, _, _, _, X3, by simp, rfl, by omega, (fun _ => rfl), e0, fun fs hl => c4.trans (X3.returnOut hexec hret (hb hbytes d9) hl)⟩
theorem pays {l : Launch} {R : Room} {p : Program} {e : Env} {below : List Frame} {s : State} {sargs : Array Value} {len W : Nat} (a : Addr) (D : Cell) (fV fC : Field) (b : Addr) (A : Cell) (z : Int32) (htab : tab.before sargs s = true) (hfr : 4 ≤ R.frames) (hlo : W + 65 ≤ R.locals) :
    Back l R p e below s sargs yN len W (fun A₁ a₁ => A₁.cells + 1 ≤ R.cells ∧ A₁.slots + A.slots.size ≤ R.slots ∧ P a D fV fC b A z a₁ A₁.U) (fun A₁ _ v₁ B₁ => E a D fV fC A v₁ A₁.U B₁.U ∧ B₁.locs = A₁.locs ++ [⟨a, fC.slot⟩, ⟨a, fV.slot⟩] ∧ B₁.cells = A₁.cells + 1 ∧ B₁.slots = A₁.slots + A.slots.size) :=
  (law l a D fV fC b A z).pays htab hfr (by omega)
end New1
/-- the byte, read back as charAt reads it, is the char -/
theorem lo8_mask {x : Int32} (h0 : ¬ x < 0) (h1 : ¬ 255 < x) : lo8 x &&& 255 = x := by
  have t : ∀ k : Fin 256, lo8 (Int32.ofNat k.val) &&& 255 = Int32.ofNat k.val := by decide +kernel
  rw [Int32.lt_iff_toInt_lt] at h0 h1
  have e0 : (0 : Int32).toInt = 0 := rfl
  have e1 : (255 : Int32).toInt = 255 := rfl
  obtain ⟨k, hk⟩ : ∃ k : Nat, x.toInt = k := ⟨x.toInt.toNat, by omega⟩
  have hx : x = Int32.ofNat k := Int32.toInt_inj.mp (by rw [hk, Int32.toInt_ofNat_small (by omega)])
  rw [hx]
  exact t ⟨k, by omega⟩
end StrChars
namespace StrChars.Road
open Jvm Sem ClassFile Op Lib Jvm.Stand Jvm.Free Jvm.Free.XT
open Jvm.Lib.Cold (StaticIs)
abbrev ST : String := "java/lang/String"
/-- every table word that New1's law asks, flat -/
abbrev words : List Jvm.Cond := [.code New1.yN New1.yB 2 none, .initialized ST, .methodLink ST 27 New4.yN, .instanceMethod New4.yN,
  .code New4.yN New4.yB 6 none, .fieldLink ST 38 ST "COMPACT_STRINGS" "Z", .laysFinal ST ST "value" "[B", .fieldLink ST 9 ST "value" "[B", .laysFinal ST ST "coder" "B", .fieldLink ST 15 ST "coder" "B",
  .methodLink ST 1 Lib.objectInit, .instanceMethod Lib.objectInit, .code Lib.objectInit ⟨#[0xb1]⟩ 1 none, .methodLink ST 177 Cmp3.yN, .static Cmp3.yN, .methodLink ST 47 CodL.yN, .static CodL.yN,
  .code Cmp3.yN Cmp3.yB 6 (some (.array .byte)), .initialized U16, .arrayClass .byte, .methodLink U16 115 Cmp5.yN, .static Cmp5.yN, .code Cmp5.yN Cmp5.yB 7 (some .int), .code CodL.yN CodL.yB 2 (some .byte)]
theorem tab_of {a : Array Value} {s : State} (h : ∀ w ∈ words, w.before a s = true) : New1.tab.before a s = true := by
  have h5 : Cmp5.tab.before a s = true := unparts (wk h (.code Cmp5.yN Cmp5.yB 7 (some .int))) (wks h (.initialized Cmp5.yN.cls :: Cmp5.site))
  have hc : CodL.tab.before a s = true := unparts (wk h (.code CodL.yN CodL.yB 2 (some .byte))) (wks h (.initialized CodL.yN.cls :: CodL.site))
  have q5 : ∀ w ∈ Cmp5.tab :: words, w.before a s = true := fun w hw => (List.mem_cons.mp hw).elim (fun e => e ▸ h5) (h w)
  have h3 : Cmp3.tab.before a s = true := unparts (wk q5 (.code Cmp3.yN Cmp3.yB 6 (some (.array .byte)))) (wks q5 (.initialized Cmp3.yN.cls :: Cmp3.site))
  have q3 : ∀ w ∈ Cmp3.tab :: CodL.tab :: words, w.before a s = true := fun w hw => (List.mem_cons.mp hw).elim (fun e => e ▸ h3) fun hw => (List.mem_cons.mp hw).elim (fun e => e ▸ hc) (h w)
  have h4 : New4.tab.before a s = true := unparts (wk q3 (.code New4.yN New4.yB 6 none)) (wks q3 (.initialized New4.yN.cls :: New4.site))
  have q4 : ∀ w ∈ New4.tab :: words, w.before a s = true := fun w hw => (List.mem_cons.mp hw).elim (fun e => e ▸ h4) (h w)
  exact unparts (wk q4 (.code New1.yN New1.yB 2 none)) (wks q4 (.initialized New1.yN.cls :: New1.site))
/-- the words ride from the start Z to the walk's own state -/
theorem moved {Z s : State} {a0 args : Array Value} (hZ : Z.Warmed39 s.vm) (hw : ∀ d ∈ words, d.before a0 Z = true) : ∀ d ∈ words, d.before args s = true := fun d hd => by
  have q := hw d hd
  have t : ∀ d ∈ words, d = .arrayClass .byte ∨ (d.onTables && d.keepsFace) = true := by decide +kernel
  rcases t d hd with rfl | t
  · exact RoadKit.mvA hZ q
  · exact RoadKit.mv hZ q t
/-- WHAT COMES BACK, over the tables of the start Z: h the heap at the call, h' behind it -/
def Q (Z : State) (x : Addr) (A : Cell) (h : Heap) (v : Option Value) (h' : Heap) (L : List Loc) : Prop := v = none ∧ (∀ y ∈ L, y.base = x) ∧ RoadKit.Keep h h' [x] ∧ h'.size = h.size + 1 ∧ RoadKit.Exa Z h' x ST ∧ RoadKit.Fld Z h' x ST "value" "[B" (.ref h.size) ∧ RoadKit.Fld Z h' x ST "coder" "B" (.int 0) ∧
  (∃ V : Cell, RoadKit.Arr Z h' h.size V .byte ∧ V.vm = .none ∧ Z.vm.findClass "[B" = some V.cls ∧ V.slots.size = A.slots.size ∧ ∀ j, j < A.slots.size → V.slots[j]? = some (.int (lo8 (cv A j)))) ∧
  ∀ (O n d : String) (w : Value), RoadKit.Fld Z h x O n d w → RoadKit.slotOf Z O n d ≠ RoadKit.slotOf Z ST "value" "[B" → RoadKit.slotOf Z O n d ≠ RoadKit.slotOf Z ST "coder" "B" → RoadKit.Fld Z h' x O n d w
/-- **new String(chars) AT A CALL, IN THE ROAD'S FORM**: for specialBack behind newO: x the fresh String, b the char[] with the cell A -/
theorem back {p : Program} {l : Launch} {e : Env} {R : Room} {s : State} {args : Array Value} {below : List Frame} {len W : Nat} {Z : State} {a0 : Array Value} {h : Heap} (hZ : Z.Warmed39 s.vm) (hw : ∀ d ∈ words, d.before a0 Z = true) {kI : Nat} (wi : (Jvm.Cond.instantiable ST kI).before a0 Z = true)
    {x b : Addr} {A : Cell} {z : Int32} {v0 c0 : Value} (E : RoadKit.Exa Z h x ST) (V : RoadKit.Fld Z h x ST "value" "[B" v0) (C : RoadKit.Fld Z h x ST "coder" "B" c0) (K : RoadKit.Arr Z h b A .char) (hty : Typed .char A) (S : RoadKit.Sta Z h ST "COMPACT_STRINGS" "Z" (.int z)) (hz : ¬ z = 0)
    (l0 : 0 < A.slots.size) (l2 : A.slots.size ≤ 536870912) (hp : ∀ i, i < A.slots.size → ¬ 255 < cv A i) (hfr : 4 ≤ R.frames) (hlo : W + 65 ≤ R.locals) :
    Back l R p e below s args New1.yN len W (fun P a => a = #[.ref x, .ref b] ∧ P.U.heap = h ∧ P.cells + 1 ≤ R.cells ∧ P.slots + A.slots.size ≤ R.slots)
      (fun P _ v B => ∃ L, Q Z x A h v B.U.heap L ∧ B.locs = P.locs ++ L ∧ B.cells = P.cells + 1 ∧ B.slots = P.slots + A.slots.size) := by
  intro m meth c P g ig mk a X hg hsize hdg hW hn hp'
  obtain ⟨rfl, rfl, r1, r2⟩ := hp'
  have al : Z.vm.Alike P.U.vm := hZ.alike.trans X.warmed.alike
  obtain ⟨D, cfV, kV, iV, fV, hD, gV, stV, knV, obV, asV, slV⟩ := id V
  obtain ⟨D', cfC, kC, iC, fC, hD', gC, stC, -, -, asC, slC⟩ := id C
  cases hD.symm.trans hD'
  obtain ⟨D2, kD, e1, e2, e3, e4, e5⟩ := id E
  cases hD.symm.trans e1
  obtain ⟨c2, k2, i1, i2, i3, -⟩ := Cond.instantiable_spec wi
  cases e2.symm.trans i1
  cases e3.symm.trans i2
  obtain ⟨kU, u1, u2⟩ := al.2.2 _ _ e3
  have hB : Blank ST x D P.U := ⟨hD, ⟨knV, fun q hq => by rw [hq] at obV; cases obV⟩, by rw [al.findClass]; exact e2, kU, u1, by rw [u2]; exact i3, by rw [u2]; exact e5 i3⟩
  have F1 : Found ST "value" "[B" fV P.U := ⟨SBG.found_only al ⟨cfV, kV, iV, gV⟩, stV⟩
  have F2 : Found ST "coder" "B" fC P.U := ⟨SBG.found_only al ⟨cfC, kC, iC, gC⟩, stC⟩
  have hA : Ch b A P.U := ⟨⟨K.1, State.isArrayOf_alike al K.2.1, K.2.2, by omega⟩, hty⟩
  have hS : StaticIs P.U ST "COMPACT_STRINGS" "Z" (.int z) := by
    obtain ⟨cfS, iS, kS, fS, st, cS, t1, t2, t3, t4, t5, t6, t7⟩ := S
    exact StaticIs.there (s := { Z with heap := P.U.heap }) ⟨cfS, iS, kS, fS, st, cS, t1, t2, t3, t4, t5, (fun q => by rw [q] at t6; cases t6), t7⟩ al rfl
  obtain ⟨v, B, X', ⟨⟨hv, E', V', q1, q2, q3, q4, q5, q6, q7, q8, q9, q10, q11⟩, hl, hc, hs⟩, st⟩ := New1.pays x D fV fC b A z (tab_of (moved hZ hw)) hfr hlo m meth c P g ig mk _ X hg hsize hdg hW hn ⟨r1, r2, rfl, hB, F1, F2, hA, hS, hz, l0, l2, hp⟩
  have al' : Z.vm.Alike B.U.vm := hZ.alike.trans X'.warmed.alike
  have hsz : E'.slots.size = D.slots.size := by
    obtain ⟨-, -, -, kB, w1, w2, w3⟩ := q1
    obtain ⟨kB', y1, y2⟩ := al'.2.2 _ _ e3
    rw [q2.2.1] at w1
    cases w1.symm.trans y1
    rw [w3, e5 i3, y2]
  refine ⟨v, B, X', ⟨_, ⟨hv, ?_, ⟨by omega, fun y cy hy hn' => q10 y cy (by simpa using hn') hy, fun y cy hy => ?_⟩, q11, ⟨E', _, q1.1, by rw [q2.2.1]; exact e2, by rw [q2.2.1]; exact e3, by rw [q2.1]; exact obV, fun _ => by rw [hsz]; exact e5 i3⟩,
    ⟨E', cfV, kV, iV, fV, q1.1, gV, stV, by rw [q2.1]; exact knV, by rw [q2.1]; exact obV, by rw [q2.2.1]; exact asV, q3⟩, ⟨E', cfC, kC, iC, fC, q1.1, gC, stC, by rw [q2.1]; exact knV, by rw [q2.1]; exact obV, by rw [q2.2.1]; exact asC, q4⟩,
    ⟨V', ⟨q5.1, State.isArrayOf_alike al'.symm q5.2.1, q5.2.2.1⟩, q6, by rw [← al'.findClass]; exact q7, q8, fun j hj => by have := q9 j hj; rwa [Nat.zero_add] at this⟩, fun O n d w F n1 n2 => ?_⟩, hl, hc, hs⟩, st⟩
  · intro y hy
    simp only [List.mem_cons, List.not_mem_nil, or_false] at hy
    rcases hy with rfl | rfl <;> rfl
  · by_cases q : y = x
    · subst q
      cases hD.symm.trans hy
      exact ⟨E', q1.1, q2.2.1, q2.1, hsz⟩
    · exact ⟨cy, q10 y cy q hy, rfl, rfl, rfl⟩
  · obtain ⟨D3, cf, k, i, f, g1, g2, g3, g4, g5, g6, g7⟩ := F
    cases hD.symm.trans g1
    simp only [RoadKit.slotOf, g2, gV, gC, Option.map_some, Option.getD_some] at n1 n2
    exact ⟨E', cf, k, i, f, q1.1, g2, g3, by rw [q2.1]; exact g4, by rw [q2.1]; exact g5, by rw [q2.2.1]; exact g6, by rw [q2.2.2 f.slot (by simp [n1, n2])]; exact g7⟩
end StrChars.Road
namespace StrChars.Road
open Jvm Sem ClassFile Op Lib Jvm.Stand Jvm.Free Jvm.Free.XT
/-- WHAT COMES BACK, the byte[] as a list of values -/
def QA (Z : State) (x : Addr) (zn : Int32) (cs : List Int32) (h : Heap) (v : Option Value) (h' : Heap) (L : List Loc) : Prop := v = none ∧ (∀ y ∈ L, y.base = x) ∧ RoadKit.Keep h h' [x] ∧ h'.size = h.size + 1 ∧ RoadKit.Exa Z h' x ST ∧ RoadKit.Fld Z h' x ST "value" "[B" (.ref h.size) ∧ RoadKit.Fld Z h' x ST "coder" "B" (.int 0) ∧
  (∃ kb, Z.vm.findClass "[B" = some kb ∧ RoadKit.Arv Z h' h.size kb .byte zn (cs.map fun c => .int (lo8 c)) (.int 0)) ∧
  ∀ (O n d : String) (w : Value), RoadKit.Fld Z h x O n d w → RoadKit.slotOf Z O n d ≠ RoadKit.slotOf Z ST "value" "[B" → RoadKit.slotOf Z O n d ≠ RoadKit.slotOf Z ST "coder" "B" → RoadKit.Fld Z h' x O n d w
/-- **new String(chars) AT A CALL, THE ARRAYS AS LISTS**: the char[] at b holds cs, not empty, no char above 255 -/
theorem backArv {p : Program} {l : Launch} {e : Env} {R : Room} {s : State} {args : Array Value} {below : List Frame} {len W : Nat} {Z : State} {a0 : Array Value} {h : Heap} (hZ : Z.Warmed39 s.vm) (hw : ∀ d ∈ words, d.before a0 Z = true) {kI : Nat} (wi : (Jvm.Cond.instantiable ST kI).before a0 Z = true)
    {x b : Addr} {k : ClassId} {zn z : Int32} {cs : List Int32} {dv v0 c0 : Value} (E : RoadKit.Exa Z h x ST) (V : RoadKit.Fld Z h x ST "value" "[B" v0) (C : RoadKit.Fld Z h x ST "coder" "B" c0) (K : RoadKit.Arv Z h b k .char zn (cs.map Value.int) dv) (S : RoadKit.Sta Z h ST "COMPACT_STRINGS" "Z" (.int z)) (hz : ¬ z = 0)
    (hlen : zn.toNatClampNeg = cs.length) (h0 : 0 < cs.length) (hbig : cs.length ≤ 536870912) (hall : ∀ c ∈ cs, ¬ 255 < c) (hfr : 4 ≤ R.frames) (hlo : W + 65 ≤ R.locals) :
    Back l R p e below s args New1.yN len W (fun P a => a = #[.ref x, .ref b] ∧ P.U.heap = h ∧ P.cells + 1 ≤ R.cells ∧ P.slots + cs.length ≤ R.slots)
      (fun P _ v B => ∃ L, QA Z x zn cs h v B.U.heap L ∧ B.locs = P.locs ++ L ∧ B.cells = P.cells + 1 ∧ B.slots = P.slots + cs.length) := by
  obtain ⟨A, K1, K2, K3, K4, K5, K6⟩ := K
  have e : A.slots.size = cs.length := K3.trans hlen
  have hat : ∀ (i : Nat) (hi : i < cs.length), A.slots[i]? = some (.int cs[i]) := fun i hi => by rw [K5 i (by omega)]; simp [List.getD_eq_getElem?_getD, hi]
  have hcv : ∀ (i : Nat) (hi : i < cs.length), cv A i = cs[i] := fun i hi => by unfold cv; rw [hat i hi]
  have hty : Typed .char A := fun i v hv => by
    have hi : i < A.slots.size := (Array.getElem?_eq_some_iff.mp hv).1
    have q := K5 i hi
    rw [hv] at q
    rw [Option.some.inj q]
    exact K6 i hi
  refine Back.mono (back hZ hw wi E V C K1 hty S hz (by omega) (by omega) (fun i hi => by rw [hcv i (by omega)]; exact hall _ (List.getElem_mem _)) hfr hlo) (fun P a hp => ⟨hp.1, hp.2.1, hp.2.2.1, by rw [e]; exact hp.2.2.2⟩) (fun P a v B hp hq => ?_)
  obtain ⟨L, ⟨q1, q2, q3, q4, q5, q6, q7, ⟨V', v1, v2, v3, v4, v5⟩, q9⟩, hl, hc, hs⟩ := hq
  refine ⟨L, ⟨q1, q2, q3, q4, q5, q6, q7, ⟨V'.cls, v3, V', v1, rfl, by rw [v4, e, hlen], K4, fun i hi => ?_, fun i hi => ?_⟩, q9⟩, hl, hc, by rw [hs, e]⟩
  · have hi' : i < cs.length := by omega
    rw [v5 i (by omega), hcv i hi']; simp [List.getD_eq_getElem?_getD, hi']
  · have hi' : i < cs.length := by omega
    simp only [List.getD_eq_getElem?_getD, List.getElem?_map, List.getElem?_eq_getElem hi', Option.map_some, Option.getD_some]
    exact fits_lo8 _
end StrChars.Road
namespace StrChars.Road
open Jvm Sem ClassFile Op Lib Jvm.Stand Jvm.Free Jvm.Free.XT
/-- WHAT COMES BACK, in the writer's own shape -/
def QV (Z : State) (x : Addr) (N : Int32) (bs : List Int32) (h : Heap) (n0 : Nat) (v : Option Value) (h' : Heap) (L : List Loc) : Prop := v = none ∧ RoadKit.Fr n0 L ∧ RoadKit.Keep h h' [x] ∧ RoadKit.Exa Z h' x ST ∧ RoadKit.Fld Z h' x ST "coder" "B" (.int 0) ∧
  ∃ (t : Addr) (kb : ClassId), n0 ≤ t ∧ h.size ≤ t ∧ ¬ t = x ∧ RoadKit.Fld Z h' x ST "value" "[B" (.ref t) ∧ RoadKit.Arv Z h' t kb .byte N (bs.map Value.int) (.int 0)
/-- **new String(chars) AT A CALL, FOR THE WRITER**: a char[] of n known ints, each 0 to 255 -/
theorem backV {p : Program} {l : Launch} {e : Env} {R : Room} {s : State} {args : Array Value} {below : List Frame} {len W : Nat} {Z : State} {a0 : Array Value} {h : Heap} (hZ : Z.Warmed39 s.vm) (hw : ∀ d ∈ words, d.before a0 Z = true) {kI : Nat} (wi : (Jvm.Cond.instantiable ST kI).before a0 Z = true)
    {x b : Addr} {kC : ClassId} {cs bs : List Int32} {d v0 c0 : Value} {z N : Int32} {n n0 : Nat} (hx0 : n0 ≤ x) (hh0 : n0 ≤ h.size) (E : RoadKit.Exa Z h x ST) (V : RoadKit.Fld Z h x ST "value" "[B" v0) (C : RoadKit.Fld Z h x ST "coder" "B" c0) (K : RoadKit.Arv Z h b kC .char N (cs.map Value.int) d) (S : RoadKit.Sta Z h ST "COMPACT_STRINGS" "Z" (.int z)) (hz : ¬ z = 0)
    (hn : cs.length = n) (hN : N = Int32.ofNat n) (l0 : 0 < n) (l2 : n ≤ 4000) (hp : ∀ c ∈ cs, ¬ c < 0 ∧ ¬ (255 : Int32) < c) (hb : bs = cs.map (fun c => c.toInt8.toInt32)) (hfr : 4 ≤ R.frames) (hlo : W + 65 ≤ R.locals) :
    Back l R p e below s args (⟨"java/lang/String", "<init>", "([C)V"⟩ : MethodName) len W (fun P a => a = #[.ref x, .ref b] ∧ P.U.heap = h ∧ P.cells + 1 ≤ R.cells ∧ P.slots + n ≤ R.slots)
      (fun P _ v B => ∃ L, QV Z x N bs h n0 v B.U.heap L ∧ B.locs = P.locs ++ L ∧ B.cells = P.cells + 1 ∧ B.slots = P.slots + n) := by
  subst hn hN hb
  refine Back.mono (backArv hZ hw wi E V C K S hz (n32 (by omega)) l0 (by omega) (fun c hc => (hp c hc).2) hfr hlo) (fun P a hp => hp) (fun P a v B hp hq => ?_)
  obtain ⟨L, ⟨q1, q2, q3, q4, q5, q6, q7, ⟨kb, v1, v2⟩, q9⟩, hl, hc, hs⟩ := hq
  exact ⟨L, ⟨q1, fun y hy => by rw [q2 y hy]; exact hx0, q3, q5, q7, h.size, kb, hh0, Nat.le_refl _, Nat.ne_of_gt E.lt, q6, by rw [List.map_map]; exact v2⟩, hl, hc, hs⟩
end StrChars.Road
namespace StrChars
open Jvm Sem ClassFile Op Lib Jvm.Stand Jvm.Free.XT Jvm.Free.ALB Jvm.Free.JM Jvm.Free
open Jvm.Lib.Cold (StaticIs)
def hi8 (x : Int32) : Int32 := lo8 (x >>> ((8 : Int32) &&& 31))
/-- what StringUTF16.getChar makes of two bytes -/
def pairCh (u v : Int32) : Int32 := (((u &&& 255) <<< ((0 : Int32) &&& 31)) ||| ((v &&& 255) <<< ((8 : Int32) &&& 31))).toUInt32.toUInt16.toUInt32.toInt32
theorem lo8_and (x : Int32) : (lo8 x &&& 255).toBitVec.toNat = x.toBitVec.toNat % 256 := by
  have h : (lo8 x).toBitVec = (x.toBitVec.signExtend 8).signExtend 32 := by rw [lo8, Int8.toBitVec_toInt32, Int32.toBitVec_toInt8]
  rw [Int32.toBitVec_and, BitVec.toNat_and, h]
  have e : ((x.toBitVec.signExtend 8).signExtend 32).toNat % 256 = x.toBitVec.toNat % 256 := by
    rw [BitVec.toNat_signExtend]
    have hlt := x.toBitVec.isLt
    simp only [BitVec.toNat_setWidth, BitVec.toNat_signExtend]
    split <;> split <;> omega
  rw [← e]
  exact Nat.and_two_pow_sub_one_eq_mod _ 8
theorem pair_says {c : Int32} (h0 : ¬ c < 0) (h1 : ¬ 65535 < c) : pairCh (lo8 c) (hi8 c) = c := by
  rw [Int32.lt_iff_toInt_lt] at h0 h1
  have e0 : (0 : Int32).toInt = 0 := rfl
  have e1 : (65535 : Int32).toInt = 65535 := rfl
  have hc : c.toInt = c.toBitVec.toNat := by
    have := c.toBitVec.isLt
    have e : c.toInt = c.toBitVec.toInt := rfl
    rw [e] at h0 h1
    rw [e]
    rw [BitVec.toInt_eq_toNat_cond] at h0 h1 ⊢
    split at h0 <;> split <;> omega
  have hn : c.toBitVec.toNat < 65536 := by omega
  have a1 := lo8_and c
  have a2 : (hi8 c &&& 255).toBitVec.toNat = c.toBitVec.toNat / 256 := by
    rw [hi8, lo8_and]
    have e : ((8 : Int32) &&& 31) = 8 := by decide
    rw [e, Int32.toBitVec_shiftRight]
    have e2 : ((8 : Int32).toBitVec.smod 32) = 8#32 := by decide
    rw [e2, BitVec.sshiftRight_eq', BitVec.toNat_sshiftRight_of_msb_false (by rw [BitVec.msb_eq_false_iff_two_mul_lt]; omega)]
    show c.toBitVec.toNat >>> 8 % 256 = _
    rw [Nat.shiftRight_eq_div_pow]
    omega
  unfold pairCh
  apply Int32.toBitVec_inj.mp
  apply BitVec.eq_of_toNat_eq
  have f0 : ((0 : Int32) &&& 31) = 0 := by decide
  have f8 : ((8 : Int32) &&& 31) = 8 := by decide
  rw [f0, f8]
  have g : (((lo8 c &&& 255) <<< (0 : Int32)) ||| ((hi8 c &&& 255) <<< (8 : Int32))).toBitVec.toNat = c.toBitVec.toNat := by
    rw [Int32.toBitVec_or, Int32.toBitVec_shiftLeft, Int32.toBitVec_shiftLeft]
    have s0 : ((0 : Int32).toBitVec.smod 32) = 0#32 := by decide
    have s8 : ((8 : Int32).toBitVec.smod 32) = 8#32 := by decide
    rw [s0, s8, BitVec.toNat_or]
    simp only [BitVec.shiftLeft_eq', BitVec.toNat_shiftLeft, a1, a2]
    show (c.toBitVec.toNat % 256) <<< 0 % 2 ^ 32 ||| (c.toBitVec.toNat / 256) <<< 8 % 2 ^ 32 = _
    rw [Nat.shiftLeft_zero, Nat.mod_eq_of_lt (show c.toBitVec.toNat % 256 < 2 ^ 32 by omega), Nat.mod_eq_of_lt (show (c.toBitVec.toNat / 256) <<< 8 < 2 ^ 32 by rw [Nat.shiftLeft_eq]; omega), Nat.or_comm, ← Nat.shiftLeft_add_eq_or_of_lt (by omega), Nat.shiftLeft_eq]
    omega
  show BitVec.toNat (((((lo8 c &&& 255) <<< (0 : Int32)) ||| ((hi8 c &&& 255) <<< (8 : Int32))).toBitVec.setWidth 16).setWidth 32) = _
  rw [BitVec.toNat_setWidth, BitVec.toNat_setWidth, g]
  omega
end StrChars
namespace StrChars
open Jvm Sem ClassFile Op Lib Jvm.Stand Jvm.Free.XT Jvm.Free.ALB Jvm.Free.JM Jvm.Free
open Jvm.Lib.Cold (StaticIs)
/-- the array's cell V codes the n chars f 0 .. f (n - 1) by the coder cd, as the JDK does: coder 1 just where some char is above 255 -/
def Cod (cd : Int32) (n : Nat) (f : Nat → Int32) (V : Cell) : Prop := (cd = 0 ∧ V.slots.size = n ∧ ∀ j, j < n → V.slots[j]? = some (.int (lo8 (f j))) ∧ ¬ 255 < f j) ∨ (cd = 1 ∧ V.slots.size = 2 * n ∧ (∀ j, j < n → V.slots[2 * j]? = some (.int (lo8 (f j))) ∧ V.slots[2 * j + 1]? = some (.int (hi8 (f j)))) ∧ ∃ j, j < n ∧ 255 < f j)
/-- **x is a String of the n chars f 0 .. f (n - 1)**, Latin-1 or UTF-16; its array at t has the cell V -/
def Txt (x t : Addr) (V : Cell) (cd : Int32) (n : Nat) (f : Nat → Int32) (U : State) : Prop := Exact "java/lang/String" x U ∧ Has x "java/lang/String" "value" "[B" (.ref t) U ∧ Has x "java/lang/String" "coder" "B" (.int cd) U ∧ XT.Arr .byte t V U ∧ Cod cd n f V ∧ ∀ j, j < n → ¬ f j < 0 ∧ ¬ 65535 < f j
theorem Txt.mv {x t : Addr} {V : Cell} {cd : Int32} {n : Nat} {f : Nat → Int32} {U U' : State} (h : Txt x t V cd n f U) (hal : U.vm.Alike U'.vm) (hh : U'.heap = U.heap) : Txt x t V cd n f U' := ⟨h.1.mv hal hh, h.2.1.mv hal hh, h.2.2.1.mv hal hh, h.2.2.2.1.mv hal hh, h.2.2.2.2⟩
end StrChars
namespace StrChars.Road
open Jvm Sem ClassFile Op Lib Jvm.Stand Jvm.Free Jvm.Free.XT
open Jvm.Lib.Cold (StaticIs)
theorem consq {a : Array Value} {s : State} {c : Jvm.Cond} {L : List Jvm.Cond} (h0 : c.before a s = true) (h : ∀ w ∈ L, w.before a s = true) : ∀ w ∈ c :: L, w.before a s = true := fun w hw => (List.mem_cons.mp hw).elim (fun e => e ▸ h0) (h w)
/-- the bytes of the chars cs, low before high -/
def wideBytes : List Int32 → List Value
  | [] => []
  | c :: cs => .int (lo8 c) :: .int (hi8 c) :: wideBytes cs
theorem wide_lo (d : Value) : ∀ (cs : List Int32) (j : Nat), j < cs.length → (wideBytes cs).getD (2 * j) d = .int (lo8 (cs.getD j 0))
  | [], j, h => absurd h (Nat.not_lt_zero j)
  | c :: cs, 0, _ => rfl
  | c :: cs, j + 1, h => by
    have q := wide_lo d cs j (by simpa using h)
    rw [show 2 * (j + 1) = 2 * j + 1 + 1 from by omega]
    simpa [wideBytes] using q
theorem wide_hi (d : Value) : ∀ (cs : List Int32) (j : Nat), j < cs.length → (wideBytes cs).getD (2 * j + 1) d = .int (hi8 (cs.getD j 0))
  | [], j, h => absurd h (Nat.not_lt_zero j)
  | c :: cs, 0, _ => rfl
  | c :: cs, j + 1, h => by
    have q := wide_hi d cs j (by simpa using h)
    rw [show 2 * (j + 1) + 1 = 2 * j + 1 + 1 + 1 from by omega]
    simpa [wideBytes] using q
theorem low_at (d : Value) (cs : List Int32) (j : Nat) (h : j < cs.length) : (cs.map fun c => Value.int (lo8 c)).getD j d = .int (lo8 (cs.getD j 0)) := by
  simp [List.getD_eq_getElem?_getD, h]
/-- an array of N2 bytes vs codes the chars cs by the coder cd -/
def CodA (cs : List Int32) (cd N2 : Int32) (vs : List Value) : Prop := (cd = 0 ∧ N2 = Int32.ofNat cs.length ∧ vs = (cs.map fun c => Value.int (lo8 c)) ∧ ∀ c ∈ cs, ¬ 255 < c) ∨ (cd = 1 ∧ N2 = Int32.ofNat (2 * cs.length) ∧ vs = wideBytes cs ∧ ∃ c ∈ cs, 255 < c)
theorem CodA.cod {cs : List Int32} {cd N2 : Int32} {vs : List Value} {V : Cell} (h : CodA cs cd N2 vs) (hn : 2 * cs.length < 2 ^ 31) (hs : V.slots.size = N2.toNatClampNeg) (hv : RoadKit.Has V vs (.int 0)) : Cod cd cs.length (fun j => cs.getD j 0) V := by
  rcases h with ⟨rfl, rfl, rfl, h⟩ | ⟨rfl, rfl, rfl, c, hc, hw⟩
  · rw [n32 (by omega)] at hs
    exact Or.inl ⟨rfl, hs, fun j hj => ⟨by rw [hv j (by omega), low_at _ _ _ hj], by
      have e : cs.getD j 0 = cs[j] := by simp [List.getD_eq_getElem?_getD, hj]
      show ¬ 255 < cs.getD j 0
      rw [e]; exact h _ (List.getElem_mem _)⟩⟩
  · rw [n32 (by omega)] at hs
    obtain ⟨j, hj, rfl⟩ := List.getElem_of_mem hc
    exact Or.inr ⟨rfl, hs, fun j hj => ⟨by rw [hv _ (by omega), wide_lo _ _ _ hj], by rw [hv _ (by omega), wide_hi _ _ _ hj]⟩, j, hj, by
      have e : cs.getD j 0 = cs[j] := by simp [List.getD_eq_getElem?_getD, hj]
      show 255 < cs.getD j 0
      rw [e]; exact hw⟩
/-- an object of exactly java/lang/String, its two fields found: as the laws ask it -/
theorem strObj {Z U : State} {a0 : Array Value} {kI : Nat} (wi : (Jvm.Cond.instantiable ST kI).before a0 Z = true) (al : Z.vm.Alike U.vm) {x : Addr} {v0 c0 : Value} (E : RoadKit.Exa Z U.heap x ST) (V : RoadKit.Fld Z U.heap x ST "value" "[B" v0) (C : RoadKit.Fld Z U.heap x ST "coder" "B" c0) :
    ∃ (D : Cell) (fV fC : Field), Blank ST x D U ∧ Found ST "value" "[B" fV U ∧ Found ST "coder" "B" fC U ∧ D.slots[fV.slot]? = some v0 ∧ D.slots[fC.slot]? = some c0 ∧ RoadKit.slotOf Z ST "value" "[B" = fV.slot ∧ RoadKit.slotOf Z ST "coder" "B" = fC.slot := by
  obtain ⟨D, cfV, kV, iV, fV, hD, gV, stV, knV, obV, asV, slV⟩ := V
  obtain ⟨D', cfC, kC, iC, fC, hD', gC, stC, -, -, asC, slC⟩ := C
  cases hD.symm.trans hD'
  obtain ⟨D2, kD, e1, e2, e3, e4, e5⟩ := E
  cases hD.symm.trans e1
  obtain ⟨c2, k2, i1, i2, i3, -⟩ := Cond.instantiable_spec wi
  cases e2.symm.trans i1
  cases e3.symm.trans i2
  obtain ⟨kU, u1, u2⟩ := al.2.2 _ _ e3
  exact ⟨D, fV, fC, ⟨hD, ⟨knV, fun q hq => by rw [hq] at obV; cases obV⟩, by rw [al.findClass]; exact e2, kU, u1, by rw [u2]; exact i3, by rw [u2]; exact e5 i3⟩, ⟨SBG.found_only al ⟨cfV, kV, iV, gV⟩, stV⟩, ⟨SBG.found_only al ⟨cfC, kC, iC, gC⟩, stC⟩, slV, slC, by simp [RoadKit.slotOf, gV], by simp [RoadKit.slotOf, gC]⟩
theorem sta_is {Z U : State} (al : Z.vm.Alike U.vm) {C n d : String} {v : Value} (S : RoadKit.Sta Z U.heap C n d v) : StaticIs U C n d v := by
  obtain ⟨cfS, iS, kS, fS, st, cS, t1, t2, t3, t4, t5, t6, t7⟩ := S
  exact StaticIs.there (s := { Z with heap := U.heap }) ⟨cfS, iS, kS, fS, st, cS, t1, t2, t3, t4, t5, (fun q => by rw [q] at t6; cases t6), t7⟩ al rfl
end StrChars.Road
namespace StrChars
open Jvm Sem ClassFile Op Lib Jvm.Stand Jvm.Free.XT Jvm.Free.ALB Jvm.Free.JM Jvm.Free
open Jvm.Lib.Cold (StaticIs)
/-- what place i of a byte[]'s cell holds -/
def yv (A : Cell) (i : Nat) : Int32 := match A.slots[i]? with | some (.int x) => x | _ => 0
theorem yv_get {a : Addr} {A : Cell} {U : State} (h : XT.Arr .byte a A U) (ht : Typed .byte A) {i : Nat} (hi : i < A.slots.size) : A.slots[i]? = some (.int (yv A i)) := by
  have e := Array.getElem?_eq_getElem hi
  have f := ht i _ e
  unfold yv; rw [e]
  generalize A.slots[i] = v at f
  cases v <;> simp [fits] at f ⊢
/-- the two arrays are equal, place for place -/
def EqC (A B : Cell) : Prop := A.slots.size = B.slots.size ∧ ∀ i, i < A.slots.size → yv A i = yv B i
/-- a boolean that says whether p -/
def Says01 (q : Prop) (r : Option Value) (s u : State) : Prop := ∃ v : Int32, r = some (.int v) ∧ u.heap = s.heap ∧ ((v = 1 ∧ q) ∨ (v = 0 ∧ ¬ q))
theorem Says01.mv {q : Prop} : ∀ r (U U' V V' : State), U'.heap = U.heap → V.vm.Alike V'.vm → V'.heap = V.heap → Says01 q r U V → Says01 q r U' V' :=
  fun r U U' V V' h1 _ h2 ⟨v, a, b, c⟩ => ⟨v, a, by rw [h1, h2]; exact b, c⟩
namespace LEq
def yN : MethodName := ⟨"java/lang/StringLatin1", "equals", "([B[B)Z"⟩
abbrev yB : ByteArray := jdk_43_method_13_code
theorem d0 : decode yB 0 = .ok (.aload_n 0, 1) := by decide +kernel
theorem d1 : decode yB 1 = .ok (.arraylength, 1) := by decide +kernel
theorem d2 : decode yB 2 = .ok (.aload_n 1, 1) := by decide +kernel
theorem d3 : decode yB 3 = .ok (.arraylength, 1) := by decide +kernel
theorem d4 : decode yB 4 = .ok (.if_icmp (.ne) 30, 3) := by decide +kernel
theorem d7 : decode yB 7 = .ok (.iconst 0, 1) := by decide +kernel
theorem d8 : decode yB 8 = .ok (.istore_n 2, 1) := by decide +kernel
theorem d9 : decode yB 9 = .ok (.iload_n 2, 1) := by decide +kernel
theorem d10 : decode yB 10 = .ok (.aload_n 0, 1) := by decide +kernel
theorem d11 : decode yB 11 = .ok (.arraylength, 1) := by decide +kernel
theorem d12 : decode yB 12 = .ok (.if_icmp (.ge) 20, 3) := by decide +kernel
theorem d15 : decode yB 15 = .ok (.aload_n 0, 1) := by decide +kernel
theorem d16 : decode yB 16 = .ok (.iload_n 2, 1) := by decide +kernel
theorem d17 : decode yB 17 = .ok (.baload, 1) := by decide +kernel
theorem d18 : decode yB 18 = .ok (.aload_n 1, 1) := by decide +kernel
theorem d19 : decode yB 19 = .ok (.iload_n 2, 1) := by decide +kernel
theorem d20 : decode yB 20 = .ok (.baload, 1) := by decide +kernel
theorem d21 : decode yB 21 = .ok (.if_icmp (.eq) 5, 3) := by decide +kernel
theorem d24 : decode yB 24 = .ok (.iconst 0, 1) := by decide +kernel
theorem d25 : decode yB 25 = .ok (.ireturn, 1) := by decide +kernel
theorem d26 : decode yB 26 = .ok (.iinc 2 1, 3) := by decide +kernel
theorem d29 : decode yB 29 = .ok (.goto (-20), 3) := by decide +kernel
theorem d32 : decode yB 32 = .ok (.iconst 1, 1) := by decide +kernel
theorem d33 : decode yB 33 = .ok (.ireturn, 1) := by decide +kernel
theorem d34 : decode yB 34 = .ok (.iconst 0, 1) := by decide +kernel
theorem d35 : decode yB 35 = .ok (.ireturn, 1) := by decide +kernel
def site : List Cond := []
def tab : Cond := tabOf yN yB 3 (some .boolean) site
def P (a : Addr) (A : Cell) (b : Addr) (B : Cell) (args : Array Value) (s : State) : Prop := args = #[.ref a, .ref b] ∧ XT.Arr .byte a A s ∧ Typed .byte A ∧ XT.Arr .byte b B s ∧ Typed .byte B
/-- whether two byte[] are equal, place for place -/
theorem law (l : Launch) (a : Addr) (A : Cell) (b : Addr) (B : Cell) : Law l yN 2 2 0 0 yB 3 (some .boolean) site (P a A b B) (Says01 (EqC A B)) [] 0 0 := by
  refine Law.of_walk (plainFor_of_name (by decide +kernel)) (by decide +kernel) (by decide +kernel) (by decide) (fun _ _ h => by rw [h.1]; rfl) (fun _ U U' hal hh h => ⟨h.1, h.2.1.mv hal hh, h.2.2.1, h.2.2.2.1.mv hal hh, h.2.2.2.2⟩) (fun r U U' V V' h1 hal h2 h => Says01.mv r U U' V V' h1 hal h2 h) ?_
  intro p e s m args below meth c s₁ X0 hexec hbytes hml hret hlk hnm hown hh0 W hP
  obtain ⟨rfl, hA, tA, hB, tB⟩ := hP
  have a31 := hA.2.2.2
  have b31 := hB.2.2.2
  have hA0 := hA.mv X0.warmed.alike hh0
  have hB0 := hB.mv X0.warmed.alike hh0
  have c1 : Steps p.tables e below (s₁.setTop (entryFrame m #[.ref a, .ref b] 3)) (s₁.setTop (mkF m 0 #[.val (.ref a), .val (.ref b), .unset] [])) := entry rfl
  have c2 : Steps p.tables e below (s₁.setTop (entryFrame m #[.ref a, .ref b] 3)) (s₁.setTop (mkF m 4 #[.val (.ref a), .val (.ref b), .unset] [.int (Int32.ofNat B.slots.size), .int (Int32.ofNat A.slots.size)])) := c1.trans (by
    refine XS.aloadN X0.here hexec rfl (hb hbytes d0) rfl rfl ?_
    refine X0.alen hexec hA0 rfl rfl (hb hbytes d1) ?_
    refine XS.aloadN X0.here hexec rfl (hb hbytes d2) rfl rfl ?_
    refine X0.alen hexec hB0 rfl rfl (hb hbytes d3) ?_
    exact Steps.refl _)
  by_cases hs : A.slots.size = B.slots.size
  · have c3 : Steps p.tables e below (s₁.setTop (entryFrame m #[.ref a, .ref b] 3)) (s₁.setTop (mkF m 9 #[.val (.ref a), .val (.ref b), .val (.int 0)] [])) := c2.trans (by
      refine XS.icmpNo X0.here hexec rfl (hb hbytes d4) rfl (ii_ne_f (by rw [hs])) ?_
      refine iconstV X0.here hexec rfl 0 (hb hbytes d7) (by decide) ?_
      refine XS.istoreN X0.here hexec rfl (hb hbytes d8) rfl rfl ?_
      exact Steps.refl _)
    have loop : ∀ (r i : Nat), i + r = A.slots.size → (∀ j, j < i → yv A j = yv B j) → Steps p.tables e below (s₁.setTop (entryFrame m #[.ref a, .ref b] 3)) (s₁.setTop (mkF m 9 #[.val (.ref a), .val (.ref b), .val (.int (Int32.ofNat i))] [])) → ∃ (pc : Nat) (Ls : Array Slot) (v : Int32), (pc = 25 ∨ pc = 33) ∧ ((v = 1 ∧ EqC A B) ∨ (v = 0 ∧ ¬ EqC A B)) ∧ Steps p.tables e below (s₁.setTop (entryFrame m #[.ref a, .ref b] 3)) (s₁.setTop (mkF m pc Ls [.int v])) := by
      intro r
      induction r with
      | zero =>
        intro i hi he cl
        exact ⟨33, _, 1, Or.inr rfl, Or.inl ⟨rfl, hs, fun j hj => he j (by omega)⟩, cl.trans (by
          refine XS.iloadN X0.here hexec rfl (hb hbytes d9) rfl ?_
          refine XS.aloadN X0.here hexec rfl (hb hbytes d10) rfl rfl ?_
          refine X0.alen hexec hA0 rfl rfl (hb hbytes d11) ?_
          refine XS.icmpYes X0.here hexec rfl (pc0 := 12) rfl (hb hbytes d12) rfl (ii_ge_t (nlt32 (by omega) (by omega))) (by decide) rfl ?_
          refine iconstV X0.here hexec rfl 1 (hb hbytes d32) (by decide) ?_
          exact Steps.refl _)⟩
      | succ r ih =>
        intro i hi he cl
        have c4 : Steps p.tables e below (s₁.setTop (entryFrame m #[.ref a, .ref b] 3)) (s₁.setTop (mkF m 21 #[.val (.ref a), .val (.ref b), .val (.int (Int32.ofNat i))] [.int (yv B i), .int (yv A i)])) := cl.trans (by
          refine XS.iloadN X0.here hexec rfl (hb hbytes d9) rfl ?_
          refine XS.aloadN X0.here hexec rfl (hb hbytes d10) rfl rfl ?_
          refine X0.alen hexec hA0 rfl rfl (hb hbytes d11) ?_
          refine XS.icmpNo X0.here hexec rfl (hb hbytes d12) rfl (ii_ge_f (lt32 (by omega) (by omega))) ?_
          refine XS.aloadN X0.here hexec rfl (hb hbytes d15) rfl rfl ?_
          refine XS.iloadN X0.here hexec rfl (hb hbytes d16) rfl ?_
          refine X0.aget hexec hA0 rfl (yv_get hA tA (i := i) (by omega)) rfl rfl (hb hbytes d17) ?_
          refine XS.aloadN X0.here hexec rfl (hb hbytes d18) rfl rfl ?_
          refine XS.iloadN X0.here hexec rfl (hb hbytes d19) rfl ?_
          refine X0.aget hexec hB0 rfl (yv_get hB tB (i := i) (by omega)) rfl rfl (hb hbytes d20) ?_
          exact Steps.refl _)
        by_cases hv : yv A i = yv B i
        · have c5 : Steps p.tables e below (s₁.setTop (entryFrame m #[.ref a, .ref b] 3)) (s₁.setTop (mkF m 9 #[.val (.ref a), .val (.ref b), .val (.int (Int32.ofNat i + 1))] [])) := c4.trans (by
            refine XS.icmpYes X0.here hexec rfl (pc0 := 21) rfl (hb hbytes d21) rfl (ii_eq_t hv) (by decide) rfl ?_
            refine iincV X0.here hexec rfl 1 (hb hbytes d26) (by decide) rfl rfl ?_
            refine XS.goto X0.here hexec rfl (pc0 := 29) rfl (hb hbytes d29) (by decide) rfl ?_
            exact Steps.refl _)
          rw [succ32] at c5
          exact ih (i + 1) (by omega) (fun j hj => by
            by_cases e : j = i
            · rw [e]; exact hv
            · exact he j (by omega)) c5
        · exact ⟨25, _, 0, Or.inl rfl, Or.inr ⟨rfl, fun q => hv (q.2 i (by omega))⟩, c4.trans (by
            refine XS.icmpNo X0.here hexec rfl (hb hbytes d21) rfl (ii_eq_f hv) ?_
            refine iconstV X0.here hexec rfl 0 (hb hbytes d24) (by decide) ?_
            exact Steps.refl _)⟩
    obtain ⟨pc, Ls, v, hpc, hv, cz⟩ := loop A.slots.size 0 (by omega) (fun j hj => absurd hj (Nat.not_lt_zero j)) c3
    have nv : narrow .boolean (.int v) = .int v := by rcases hv with ⟨rfl, -⟩ | ⟨rfl, -⟩ <;> rfl
    rcases hpc with rfl | rfl
    · exact ⟨s₁, some (.int v), _, _, _, X0, rfl, rfl, rfl, (fun h => by cases h), ⟨v, rfl, hh0, hv⟩, fun fs hl => cz.trans (X0.ireturnOut hexec hret nv (Or.inr (Or.inl rfl)) (hb hbytes d25) hl)⟩
    · exact ⟨s₁, some (.int v), _, _, _, X0, rfl, rfl, rfl, (fun h => by cases h), ⟨v, rfl, hh0, hv⟩, fun fs hl => cz.trans (X0.ireturnOut hexec hret nv (Or.inr (Or.inl rfl)) (hb hbytes d33) hl)⟩
  · have c3 : Steps p.tables e below (s₁.setTop (entryFrame m #[.ref a, .ref b] 3)) (s₁.setTop (mkF m 35 #[.val (.ref a), .val (.ref b), .unset] [.int 0])) := c2.trans (by
      refine XS.icmpYes X0.here hexec rfl (pc0 := 4) rfl (hb hbytes d4) rfl (ii_ne_t (ne32 a31 b31 hs)) (by decide) rfl ?_
      refine iconstV X0.here hexec rfl 0 (hb hbytes d34) (by decide) ?_
      exact Steps.refl _)
    exact ⟨s₁, some (.int 0), _, _, _, X0, rfl, rfl, rfl, (fun h => by cases h), ⟨0, rfl, hh0, Or.inr ⟨rfl, fun q => hs q.1⟩⟩, fun fs hl => c3.trans (X0.ireturnOut hexec hret rfl (Or.inr (Or.inl rfl)) (hb hbytes d35) hl)⟩
end LEq
theorem Cod.ty {cd : Int32} {n : Nat} {f : Nat → Int32} {V : Cell} (h : Cod cd n f V) : Typed .byte V := fun i v hv => by
  have hi : i < V.slots.size := (Array.getElem?_eq_some_iff.mp hv).1
  rcases h with ⟨-, k1, k2⟩ | ⟨-, k1, k2, -⟩
  · rw [(k2 i (by omega)).1] at hv; cases hv; exact fits_lo8 _
  · rcases Nat.mod_two_eq_zero_or_one i with e | e
    · obtain ⟨j, rfl⟩ : ∃ j, i = 2 * j := ⟨i / 2, by omega⟩
      rw [(k2 j (by omega)).1] at hv; cases hv; exact fits_lo8 _
    · obtain ⟨j, rfl⟩ : ∃ j, i = 2 * j + 1 := ⟨i / 2, by omega⟩
      rw [(k2 j (by omega)).2] at hv; cases hv; exact fits_lo8 _
/-- the same text -/
def SameT (n : Nat) (f : Nat → Int32) (k : Nat) (g : Nat → Int32) : Prop := n = k ∧ ∀ j, j < n → f j = g j
theorem lo8_inj {x y : Int32} (h0 : ¬ x < 0) (h1 : ¬ 255 < x) (k0 : ¬ y < 0) (k1 : ¬ 255 < y) (h : lo8 x = lo8 y) : x = y := by
  rw [← lo8_mask h0 h1, ← lo8_mask k0 k1, h]
/-- arrays coded by one coder are equal just where the texts are -/
theorem Cod.eqv {cd : Int32} {n k : Nat} {f g : Nat → Int32} {V V' : Cell} (h : Cod cd n f V) (h' : Cod cd k g V') (hf : ∀ j, j < n → ¬ f j < 0 ∧ ¬ 65535 < f j) (hg : ∀ j, j < k → ¬ g j < 0 ∧ ¬ 65535 < g j) : EqC V V' ↔ SameT n f k g := by
  have yvv : ∀ {W : Cell} {i : Nat} {x : Int32}, W.slots[i]? = some (.int x) → yv W i = x := fun q => by unfold yv; rw [q]
  rcases h with ⟨rfl, k1, k2⟩ | ⟨rfl, k1, k2, -⟩
  · rcases h' with ⟨-, m1, m2⟩ | ⟨e, -⟩
    · constructor
      · rintro ⟨e1, e2⟩
        refine ⟨by omega, fun j hj => ?_⟩
        have q := e2 j (by omega)
        rw [yvv (k2 j hj).1, yvv (m2 j (by omega)).1] at q
        exact lo8_inj (hf j hj).1 (k2 j hj).2 (hg j (by omega)).1 (m2 j (by omega)).2 q
      · rintro ⟨rfl, e2⟩
        refine ⟨by omega, fun j hj => ?_⟩
        rw [yvv (k2 j (by omega)).1, yvv (m2 j (by omega)).1, e2 j (by omega)]
    · exact absurd e (by decide)
  · rcases h' with ⟨e, -⟩ | ⟨-, m1, m2, -⟩
    · exact absurd e (by decide)
    · constructor
      · rintro ⟨e1, e2⟩
        refine ⟨by omega, fun j hj => ?_⟩
        have q1 := e2 (2 * j) (by omega)
        have q2 := e2 (2 * j + 1) (by omega)
        rw [yvv (k2 j hj).1, yvv (m2 j (by omega)).1] at q1
        rw [yvv (k2 j hj).2, yvv (m2 j (by omega)).2] at q2
        rw [← pair_says (hf j hj).1 (hf j hj).2, ← pair_says (hg j (by omega)).1 (hg j (by omega)).2, q1, q2]
      · rintro ⟨rfl, e2⟩
        refine ⟨by omega, fun i hi => ?_⟩
        rcases Nat.mod_two_eq_zero_or_one i with e | e
        · obtain ⟨j, rfl⟩ : ∃ j, i = 2 * j := ⟨i / 2, by omega⟩
          rw [yvv (k2 j (by omega)).1, yvv (m2 j (by omega)).1, e2 j (by omega)]
        · obtain ⟨j, rfl⟩ : ∃ j, i = 2 * j + 1 := ⟨i / 2, by omega⟩
          rw [yvv (k2 j (by omega)).2, yvv (m2 j (by omega)).2, e2 j (by omega)]
/-- two codings differ: so do the texts -/
theorem Cod.dif {cd cd' : Int32} {n k : Nat} {f g : Nat → Int32} {V V' : Cell} (h : Cod cd n f V) (h' : Cod cd' k g V') (hne : ¬ cd = cd') : ¬ SameT n f k g := by
  rintro ⟨rfl, e⟩
  rcases h with ⟨rfl, -, k2⟩ | ⟨rfl, -, -, j, hj, hw⟩
  · rcases h' with ⟨rfl, -⟩ | ⟨-, -, -, j, hj, hw⟩
    · exact hne rfl
    · exact (k2 j hj).2 (by rw [e j hj]; exact hw)
  · rcases h' with ⟨-, -, m2⟩ | ⟨rfl, -⟩
    · exact (m2 j hj).2 (by rw [← e j hj]; exact hw)
    · exact hne rfl
/-- an object of exactly C is an instance of C -/
theorem cinst {p : Program} {l : Launch} {e : Env} {R : Room} {s : State} {m : MethodId} {args : Array Value} {below : List Frame} {meth : Method} {c : Code} {T : State} {locs : List Loc} {cells slots : Nat} (X : Stand p l e R s m args below meth c T locs cells slots) (hexec : p.tables.exec = Jvm.exec) {own C : String} {index : Nat} (hown : s.vm.findClass own = some m.cls) (hlink : (Cond.classLink own index C).before args s = true) {a : Addr} (hE : Exact C a T)
    {g : JFrame} (hg : g.method = m) {rest : List Value} (hstack : g.stack = .ref a :: rest) (hdg : decode c.code g.pc = .ok (.instanceof index, 3)) :
    ∃ T', Stand p l e R s m args below meth c T' locs cells slots ∧ T'.heap = T.heap ∧ ∀ target, Steps p.tables e below (T'.setTop { g with pc := g.pc + 3, stack := .int 1 :: rest }) target → Steps p.tables e below (T.setTop g) target := by
  obtain ⟨cB, h1, D, h2, h3, h4⟩ := hE
  have h1' : s.vm.findClass C = some cB := by rw [← X.warmed.alike.findClass]; exact h1
  obtain ⟨vm', X', st⟩ := X.instanceofYes hexec hown hlink h2 h4 h1' (by rw [h3]; exact Jvm.Free.SB.assignable_self _ _) hg hstack hdg
  exact ⟨_, X', rfl, st⟩
theorem cself {p : Program} {l : Launch} {e : Env} {R : Room} {s : State} {m : MethodId} {args : Array Value} {below : List Frame} {meth : Method} {c : Code} {T : State} {locs : List Loc} {cells slots : Nat} (X : Stand p l e R s m args below meth c T locs cells slots) (hexec : p.tables.exec = Jvm.exec) {own C : String} {index : Nat} (hown : s.vm.findClass own = some m.cls) (hlink : (Cond.classLink own index C).before args s = true) {a : Addr} (hE : Exact C a T)
    {g : JFrame} (hg : g.method = m) {rest : List Value} (hstack : g.stack = .ref a :: rest) (hdg : decode c.code g.pc = .ok (.checkcast index, 3)) :
    ∃ T', Stand p l e R s m args below meth c T' locs cells slots ∧ T'.heap = T.heap ∧ ∀ target, Steps p.tables e below (T'.setTop { g with pc := g.pc + 3, stack := .ref a :: rest }) target → Steps p.tables e below (T.setTop g) target := by
  obtain ⟨cB, h1, D, h2, h3, h4⟩ := hE
  have h1' : s.vm.findClass C = some cB := by rw [← X.warmed.alike.findClass]; exact h1
  obtain ⟨vm', X', st⟩ := X.checkcastYes hexec hown hlink h2 h4 h1' (by rw [h3]; exact Jvm.Free.SB.assignable_self _ _) hg hstack hdg
  exact ⟨_, X', rfl, fun t h => st t (by rw [← hstack] at h; exact h)⟩
namespace SEq
def yN : MethodName := ⟨"java/lang/String", "equals", "(Ljava/lang/Object;)Z"⟩
abbrev yB : ByteArray := jdk_42_method_66_code
theorem d0 : decode yB 0 = .ok (.aload_n 0, 1) := by decide +kernel
theorem d1 : decode yB 1 = .ok (.aload_n 1, 1) := by decide +kernel
theorem d2 : decode yB 2 = .ok (.if_acmp (.ne) 5, 3) := by decide +kernel
theorem d5 : decode yB 5 = .ok (.iconst 1, 1) := by decide +kernel
theorem d6 : decode yB 6 = .ok (.ireturn, 1) := by decide +kernel
theorem d7 : decode yB 7 = .ok (.aload_n 1, 1) := by decide +kernel
theorem d8 : decode yB 8 = .ok (.instanceof 10, 3) := by decide +kernel
theorem d11 : decode yB 11 = .ok (.ifCond (.eq) 43, 3) := by decide +kernel
theorem d14 : decode yB 14 = .ok (.aload_n 1, 1) := by decide +kernel
theorem d15 : decode yB 15 = .ok (.checkcast 10, 3) := by decide +kernel
theorem d18 : decode yB 18 = .ok (.astore_n 2, 1) := by decide +kernel
theorem d19 : decode yB 19 = .ok (.getstatic 38, 3) := by decide +kernel
theorem d22 : decode yB 22 = .ok (.ifCond (.eq) 14, 3) := by decide +kernel
theorem d25 : decode yB 25 = .ok (.aload_n 0, 1) := by decide +kernel
theorem d26 : decode yB 26 = .ok (.getfield 15, 3) := by decide +kernel
theorem d29 : decode yB 29 = .ok (.aload_n 2, 1) := by decide +kernel
theorem d30 : decode yB 30 = .ok (.getfield 15, 3) := by decide +kernel
theorem d33 : decode yB 33 = .ok (.if_icmp (.ne) 21, 3) := by decide +kernel
theorem d36 : decode yB 36 = .ok (.aload_n 0, 1) := by decide +kernel
theorem d37 : decode yB 37 = .ok (.getfield 9, 3) := by decide +kernel
theorem d40 : decode yB 40 = .ok (.aload_n 2, 1) := by decide +kernel
theorem d41 : decode yB 41 = .ok (.getfield 9, 3) := by decide +kernel
theorem d44 : decode yB 44 = .ok (.invokestatic 541, 3) := by decide +kernel
theorem d47 : decode yB 47 = .ok (.ifCond (.eq) 7, 3) := by decide +kernel
theorem d50 : decode yB 50 = .ok (.iconst 1, 1) := by decide +kernel
theorem d51 : decode yB 51 = .ok (.goto 4, 3) := by decide +kernel
theorem d54 : decode yB 54 = .ok (.iconst 0, 1) := by decide +kernel
theorem d55 : decode yB 55 = .ok (.ireturn, 1) := by decide +kernel
def site : List Cond := [.classLink "java/lang/String" 10 "java/lang/String", .fieldLink "java/lang/String" 38 "java/lang/String" "COMPACT_STRINGS" "Z", .fieldLink "java/lang/String" 15 "java/lang/String" "coder" "B", .fieldLink "java/lang/String" 9 "java/lang/String" "value" "[B", LEq.tab] ++ staticW "java/lang/String" 541 LEq.yN
def tab : Cond := tabOf yN yB 3 (some .boolean) site
def P (x t : Addr) (V : Cell) (cd : Int32) (n : Nat) (f : Nat → Int32) (y t' : Addr) (V' : Cell) (cd' : Int32) (k : Nat) (g : Nat → Int32) (z : Int32) (args : Array Value) (s : State) : Prop := args = #[.ref x, .ref y] ∧ Txt x t V cd n f s ∧ Txt y t' V' cd' k g s ∧ StaticIs s "java/lang/String" "COMPACT_STRINGS" "Z" (.int z) ∧ ¬ z = 0
/-- equals(Object) of two Strings: whether the texts are the same -/
theorem law (l : Launch) (x t : Addr) (V : Cell) (cd : Int32) (n : Nat) (f : Nat → Int32) (y t' : Addr) (V' : Cell) (cd' : Int32) (k : Nat) (g : Nat → Int32) (z : Int32) : Law l yN 2 1 1 14 yB 3 (some .boolean) site (P x t V cd n f y t' V' cd' k g z) (Says01 (SameT n f k g)) [] 0 0 := by
  refine Law.of_walk (plainFor_of_name (by decide +kernel)) (by decide +kernel) (by decide +kernel) (by decide) (fun _ _ h => by rw [h.1]; rfl) (fun _ U U' hal hh h => ⟨h.1, h.2.1.mv hal hh, h.2.2.1.mv hal hh, h.2.2.2.1.there hal hh, h.2.2.2.2⟩) (fun r U U' V V' h1 hal h2 h => Says01.mv r U U' V V' h1 hal h2 h) ?_
  intro p e s m args below meth c s₁ X0 hexec hbytes hml hret hlk hnm hown hh0 W hP
  obtain ⟨rfl, hx, hy, s1, hz⟩ := hP
  have c1 : Steps p.tables e below (s₁.setTop (entryFrame m #[.ref x, .ref y] 3)) (s₁.setTop (mkF m 2 #[.val (.ref x), .val (.ref y), .unset] [.ref y, .ref x])) := Steps.trans (entry rfl) (by
    show Steps p.tables e below (s₁.setTop (mkF m 0 #[.val (.ref x), .val (.ref y), .unset] [])) _
    refine XS.aloadN X0.here hexec rfl (hb hbytes d0) rfl rfl ?_
    refine XS.aloadN X0.here hexec rfl (hb hbytes d1) rfl rfl ?_
    exact Steps.refl _)
  by_cases hxy : x = y
  · have c2 : Steps p.tables e below (s₁.setTop (entryFrame m #[.ref x, .ref y] 3)) (s₁.setTop (mkF m 6 #[.val (.ref x), .val (.ref y), .unset] [.int 1])) := c1.trans (by
      refine acmpNo X0.here hexec rfl (hb hbytes d2) rfl rfl rfl (by simp [acmp, hxy]) ?_
      refine iconstV X0.here hexec rfl 1 (hb hbytes d5) (by decide) ?_
      exact Steps.refl _)
    subst hxy
    have ec : cd = cd' := by
      obtain ⟨D, fd, a1, a2, a3⟩ := hx.2.2.1
      obtain ⟨D', fd', b1, b2, b3⟩ := hy.2.2.1
      cases a1.symm.trans b1
      obtain ⟨q1, q2, q3, q4⟩ := a2.1
      obtain ⟨r1, r2, r3, r4⟩ := b2.1
      cases q4.symm.trans r4
      cases a3.symm.trans b3; rfl
    have et : t = t' := by
      obtain ⟨D, fd, a1, a2, a3⟩ := hx.2.1
      obtain ⟨D', fd', b1, b2, b3⟩ := hy.2.1
      cases a1.symm.trans b1
      obtain ⟨q1, q2, q3, q4⟩ := a2.1
      obtain ⟨r1, r2, r3, r4⟩ := b2.1
      cases q4.symm.trans r4
      cases a3.symm.trans b3; rfl
    subst ec et
    have ev : V = V' := by cases hx.2.2.2.1.1.symm.trans hy.2.2.2.1.1; rfl
    subst ev
    have hs : SameT n f k g := (Cod.eqv hx.2.2.2.2.1 hy.2.2.2.2.1 hx.2.2.2.2.2 hy.2.2.2.2.2).mp ⟨rfl, fun _ _ => rfl⟩
    exact ⟨s₁, some (.int 1), _, _, _, X0, rfl, rfl, rfl, (fun h => by cases h), ⟨1, rfl, hh0, Or.inl ⟨rfl, hs⟩⟩, fun fs hl => c2.trans (X0.ireturnOut hexec hret rfl (Or.inr (Or.inl rfl)) (hb hbytes d6) hl)⟩
  · have c2 : Steps p.tables e below (s₁.setTop (entryFrame m #[.ref x, .ref y] 3)) (s₁.setTop (mkF m 8 #[.val (.ref x), .val (.ref y), .unset] [.ref y])) := c1.trans (by
      refine acmpYes X0.here hexec rfl (pc0 := 2) rfl (hb hbytes d2) rfl rfl rfl (by simp [acmp, hxy]) (by decide) rfl ?_
      refine XS.aloadN X0.here hexec rfl (hb hbytes d7) rfl rfl ?_
      exact Steps.refl _)
    obtain ⟨T3, X3, q3, st3⟩ := cinst X0 hexec hown (wk W (.classLink "java/lang/String" 10 "java/lang/String")) (hy.mv X0.warmed.alike hh0).1 (g := (mkF m 8 #[.val (.ref x), .val (.ref y), .unset] [.ref y])) rfl (rest := []) rfl (hb hbytes d8)
    have hh3 := q3.trans hh0
    have c4 : Steps p.tables e below (s₁.setTop (entryFrame m #[.ref x, .ref y] 3)) (T3.setTop (mkF m 15 #[.val (.ref x), .val (.ref y), .unset] [.ref y])) := (c2.trans (st3 _ (Steps.refl _))).trans (by
      refine XS.ifNo X3.here hexec rfl (hb hbytes d11) rfl (i0_eq_f (by decide)) ?_
      refine XS.aloadN X3.here hexec rfl (hb hbytes d14) rfl rfl ?_
      exact Steps.refl _)
    obtain ⟨T5, X5, q5, st5⟩ := cself X3 hexec hown (wk W (.classLink "java/lang/String" 10 "java/lang/String")) (hy.mv X3.warmed.alike hh3).1 (g := (mkF m 15 #[.val (.ref x), .val (.ref y), .unset] [.ref y])) rfl (rest := []) rfl (hb hbytes d15)
    have hh5 := q5.trans hh3
    have c6 : Steps p.tables e below (s₁.setTop (entryFrame m #[.ref x, .ref y] 3)) (T5.setTop (mkF m 19 #[.val (.ref x), .val (.ref y), .val (.ref y)] [])) := (c4.trans (st5 _ (Steps.refl _))).trans (by
      refine XS.astoreN X5.here hexec rfl (hb hbytes d18) rfl rfl rfl ?_
      exact Steps.refl _)
    obtain ⟨T7, X7, q7, st7⟩ := X5.sget hexec hown (wk W (.fieldLink "java/lang/String" 38 "java/lang/String" "COMPACT_STRINGS" "Z")) s1 (fun _ _ h => by rw [hh5]; exact h) (g := (mkF m 19 #[.val (.ref x), .val (.ref y), .val (.ref y)] [])) rfl (hb hbytes d19)
    have hh7 := q7.trans hh5
    have c8 : Steps p.tables e below (s₁.setTop (entryFrame m #[.ref x, .ref y] 3)) (T7.setTop (mkF m 26 #[.val (.ref x), .val (.ref y), .val (.ref y)] [.ref x])) := (c6.trans (st7 _ (Steps.refl _))).trans (by
      refine XS.ifNo X7.here hexec rfl (hb hbytes d22) rfl (i0_eq_f hz) ?_
      refine XS.aloadN X7.here hexec rfl (hb hbytes d25) rfl rfl ?_
      exact Steps.refl _)
    obtain ⟨T9, X9, q9, st9⟩ := X7.hget hexec hown (wk W (.fieldLink "java/lang/String" 15 "java/lang/String" "coder" "B")) (hx.mv X7.warmed.alike hh7).2.2.1 (g := (mkF m 26 #[.val (.ref x), .val (.ref y), .val (.ref y)] [.ref x])) rfl (rest := []) rfl (hb hbytes d26)
    have hh9 := q9.trans hh7
    have c10 : Steps p.tables e below (s₁.setTop (entryFrame m #[.ref x, .ref y] 3)) (T9.setTop (mkF m 30 #[.val (.ref x), .val (.ref y), .val (.ref y)] [.ref y, .int cd])) := (c8.trans (st9 _ (Steps.refl _))).trans (by
      refine XS.aloadN X9.here hexec rfl (hb hbytes d29) rfl rfl ?_
      exact Steps.refl _)
    obtain ⟨T11, X11, q11, st11⟩ := X9.hget hexec hown (wk W (.fieldLink "java/lang/String" 15 "java/lang/String" "coder" "B")) (hy.mv X9.warmed.alike hh9).2.2.1 (g := (mkF m 30 #[.val (.ref x), .val (.ref y), .val (.ref y)] [.ref y, .int cd])) rfl (rest := [.int cd]) rfl (hb hbytes d30)
    have hh11 := q11.trans hh9
    have c12 : Steps p.tables e below (s₁.setTop (entryFrame m #[.ref x, .ref y] 3)) (T11.setTop (mkF m 33 #[.val (.ref x), .val (.ref y), .val (.ref y)] [.int cd', .int cd])) := c10.trans (st11 _ (Steps.refl _))
    by_cases hcd : cd = cd'
    · subst hcd
      have c13 : Steps p.tables e below (s₁.setTop (entryFrame m #[.ref x, .ref y] 3)) (T11.setTop (mkF m 37 #[.val (.ref x), .val (.ref y), .val (.ref y)] [.ref x])) := c12.trans (by
        refine XS.icmpNo X11.here hexec rfl (hb hbytes d33) rfl (ii_ne_f rfl) ?_
        refine XS.aloadN X11.here hexec rfl (hb hbytes d36) rfl rfl ?_
        exact Steps.refl _)
      obtain ⟨T14, X14, q14, st14⟩ := X11.hget hexec hown (wk W (.fieldLink "java/lang/String" 9 "java/lang/String" "value" "[B")) (hx.mv X11.warmed.alike hh11).2.1 (g := (mkF m 37 #[.val (.ref x), .val (.ref y), .val (.ref y)] [.ref x])) rfl (rest := []) rfl (hb hbytes d37)
      have hh14 := q14.trans hh11
      have c15 : Steps p.tables e below (s₁.setTop (entryFrame m #[.ref x, .ref y] 3)) (T14.setTop (mkF m 41 #[.val (.ref x), .val (.ref y), .val (.ref y)] [.ref y, .ref t])) := (c13.trans (st14 _ (Steps.refl _))).trans (by
        refine XS.aloadN X14.here hexec rfl (hb hbytes d40) rfl rfl ?_
        exact Steps.refl _)
      obtain ⟨T16, X16, q16, st16⟩ := X14.hget hexec hown (wk W (.fieldLink "java/lang/String" 9 "java/lang/String" "value" "[B")) (hy.mv X14.warmed.alike hh14).2.1 (g := (mkF m 41 #[.val (.ref x), .val (.ref y), .val (.ref y)] [.ref y, .ref t])) rfl (rest := [.ref t]) rfl (hb hbytes d41)
      have hh16 := q16.trans hh14
      have c17 : Steps p.tables e below (s₁.setTop (entryFrame m #[.ref x, .ref y] 3)) (T16.setTop (mkF m 44 #[.val (.ref x), .val (.ref y), .val (.ref y)] [.ref t', .ref t])) := c15.trans (st16 _ (Steps.refl _))
      obtain ⟨v18, T18, X18, E18, g18⟩ := X16.callS hexec (LEq.law l t V t' V') hown (wks W (staticW "java/lang/String" 541 LEq.yN)) (wk W LEq.tab) (W := 0) (Nat.le_of_ble_eq_true rfl) (Nat.le_of_ble_eq_true rfl) (Nat.le_refl _) (Nat.le_refl _) (g := (mkF m 44 #[.val (.ref x), .val (.ref y), .val (.ref y)] [.ref t', .ref t])) rfl (by rw [hml]; rfl) c17 (argsL := [.ref t, .ref t']) (rest := []) rfl rfl (by show 2 * 0 + 0 ≤ _; decide) (hb hbytes d44) (⟨rfl, hx.2.2.2.1.mv X16.warmed.alike hh16, hx.2.2.2.2.1.ty, hy.2.2.2.1.mv X16.warmed.alike hh16, hy.2.2.2.2.1.ty⟩)
      obtain ⟨v, rfl, q18, hv⟩ := E18
      have iff := Cod.eqv hx.2.2.2.2.1 hy.2.2.2.2.1 hx.2.2.2.2.2 hy.2.2.2.2.2
      rcases hv with ⟨rfl, he⟩ | ⟨rfl, he⟩
      · have c19 : Steps p.tables e below (s₁.setTop (entryFrame m #[.ref x, .ref y] 3)) (T18.setTop (mkF m 55 #[.val (.ref x), .val (.ref y), .val (.ref y)] [.int 1])) := Steps.trans g18 (by
          refine XS.ifNo X18.here hexec rfl (hb hbytes d47) rfl (i0_eq_f (by decide)) ?_
          refine iconstV X18.here hexec rfl 1 (hb hbytes d50) (by decide) ?_
          refine XS.goto X18.here hexec rfl (pc0 := 51) rfl (hb hbytes d51) (by decide) rfl ?_
          exact Steps.refl _)
        exact ⟨T18, some (.int 1), _, _, _, X18, rfl, rfl, rfl, (fun h => by cases h), ⟨1, rfl, q18.trans hh16, Or.inl ⟨rfl, iff.mp he⟩⟩, fun fs hl => c19.trans (X18.ireturnOut hexec hret rfl (Or.inr (Or.inl rfl)) (hb hbytes d55) hl)⟩
      · have c19 : Steps p.tables e below (s₁.setTop (entryFrame m #[.ref x, .ref y] 3)) (T18.setTop (mkF m 55 #[.val (.ref x), .val (.ref y), .val (.ref y)] [.int 0])) := Steps.trans g18 (by
          refine XS.ifYes X18.here hexec rfl (pc0 := 47) rfl (hb hbytes d47) rfl (i0_eq_t rfl) (by decide) rfl ?_
          refine iconstV X18.here hexec rfl 0 (hb hbytes d54) (by decide) ?_
          exact Steps.refl _)
        exact ⟨T18, some (.int 0), _, _, _, X18, rfl, rfl, rfl, (fun h => by cases h), ⟨0, rfl, q18.trans hh16, Or.inr ⟨rfl, fun q => he (iff.mpr q)⟩⟩, fun fs hl => c19.trans (X18.ireturnOut hexec hret rfl (Or.inr (Or.inl rfl)) (hb hbytes d55) hl)⟩
    · have c13 : Steps p.tables e below (s₁.setTop (entryFrame m #[.ref x, .ref y] 3)) (T11.setTop (mkF m 55 #[.val (.ref x), .val (.ref y), .val (.ref y)] [.int 0])) := c12.trans (by
        refine XS.icmpYes X11.here hexec rfl (pc0 := 33) rfl (hb hbytes d33) rfl (ii_ne_t hcd) (by decide) rfl ?_
        refine iconstV X11.here hexec rfl 0 (hb hbytes d54) (by decide) ?_
        exact Steps.refl _)
      exact ⟨T11, some (.int 0), _, _, _, X11, rfl, rfl, rfl, (fun h => by cases h), ⟨0, rfl, hh11, Or.inr ⟨rfl, Cod.dif hx.2.2.2.2.1 hy.2.2.2.2.1 hcd⟩⟩, fun fs hl => c13.trans (X11.ireturnOut hexec hret rfl (Or.inr (Or.inl rfl)) (hb hbytes d55) hl)⟩
theorem pays {l : Launch} {R : Room} {p : Program} {e : Env} {below : List Frame} {s : State} {sargs : Array Value} {len W : Nat} (x t : Addr) (V : Cell) (cd : Int32) (n : Nat) (f : Nat → Int32) (y t' : Addr) (V' : Cell) (cd' : Int32) (k : Nat) (g : Nat → Int32) (z : Int32) (htab : tab.before sargs s = true) (hfr : 2 ≤ R.frames) (hlo : W + 28 ≤ R.locals) :
    Back l R p e below s sargs yN len W (fun A₁ a₁ => A₁.cells + 0 ≤ R.cells ∧ A₁.slots + 0 ≤ R.slots ∧ P x t V cd n f y t' V' cd' k g z a₁ A₁.U) (fun A₁ _ v₁ B₁ => Says01 (SameT n f k g) v₁ A₁.U B₁.U ∧ B₁.locs = A₁.locs ++ [] ∧ B₁.cells = A₁.cells + 0 ∧ B₁.slots = A₁.slots + 0) :=
  (law l x t V cd n f y t' V' cd' k g z).pays htab hfr (by omega)
end SEq
end StrChars
namespace StrChars.Road
open Jvm Sem ClassFile Op Lib Jvm.Stand Jvm.Free Jvm.Free.XT
open Jvm.Lib.Cold (StaticIs)
/-- the words of String.equals(Object) -/
abbrev wordsEq : List Jvm.Cond := [.code SEq.yN SEq.yB 3 (some .boolean), .initialized ST, .classLink ST 10 ST, .fieldLink ST 38 ST "COMPACT_STRINGS" "Z", .fieldLink ST 15 ST "coder" "B", .fieldLink ST 9 ST "value" "[B", .methodLink ST 541 LEq.yN, .static LEq.yN, .code LEq.yN LEq.yB 3 (some .boolean), .initialized "java/lang/StringLatin1"]
theorem tabEq_of {a : Array Value} {s : State} (h : ∀ w ∈ wordsEq, w.before a s = true) : SEq.tab.before a s = true := by
  have hl : LEq.tab.before a s = true := unparts (wk h (.code LEq.yN LEq.yB 3 (some .boolean))) (wks h (.initialized LEq.yN.cls :: LEq.site))
  have q := consq hl h
  exact unparts (wk q (.code SEq.yN SEq.yB 3 (some .boolean))) (wks q (.initialized SEq.yN.cls :: SEq.site))
theorem movedEq {Z s : State} {a0 args : Array Value} (hZ : Z.Warmed39 s.vm) (hw : ∀ d ∈ wordsEq, d.before a0 Z = true) : ∀ d ∈ wordsEq, d.before args s = true := fun d hd => by
  have t : ∀ d ∈ wordsEq, (d.onTables && d.keepsFace) = true := by decide +kernel
  exact RoadKit.mv hZ (hw d hd) (t d hd)
/-- the road's facts of a String, as the laws ask it -/
theorem txt_of {Z U : State} {a0 : Array Value} {kI : Nat} (wi : (Jvm.Cond.instantiable ST kI).before a0 Z = true) (al : Z.vm.Alike U.vm) {x t : Addr} {kb : ClassId} {cs : List Int32} {cd N2 : Int32} {vs : List Value} (E : RoadKit.Exa Z U.heap x ST) (V : RoadKit.Fld Z U.heap x ST "value" "[B" (.ref t)) (C : RoadKit.Fld Z U.heap x ST "coder" "B" (.int cd)) (K : RoadKit.Arv Z U.heap t kb .byte N2 vs (.int 0)) (hc : CodA cs cd N2 vs) (hb : ∀ c ∈ cs, ¬ c < 0 ∧ ¬ (65535 : Int32) < c) (l2 : cs.length ≤ 4000) :
    ∃ A, Txt x t A cd cs.length (fun j => cs.getD j 0) U := by
  obtain ⟨A, K1, K2, K3, K4, K5, K6⟩ := K
  have hcod := hc.cod (by omega) K3 K5
  obtain ⟨D, fV, fC, hB, F1, F2, g1, g2, -, -⟩ := strObj wi al E V C
  exact ⟨A, ⟨_, hB.2.2.1, D, hB.1, rfl, by cases q : D.vm <;> first | rfl | exact absurd q (hB.2.1.2 _)⟩, Has.of hB F1 g1, Has.of hB F2 g2, ⟨K1.1, State.isArrayOf_alike al K1.2.1, K1.2.2, by rcases hcod with ⟨-, q, -⟩ | ⟨-, q, -⟩ <;> omega⟩, hcod, fun j hj => by
    have e : cs.getD j 0 = cs[j] := by simp [List.getD_eq_getElem?_getD, hj]
    show ¬ cs.getD j 0 < 0 ∧ ¬ 65535 < cs.getD j 0
    rw [e]; exact hb _ (List.getElem_mem _)⟩
theorem same_list (cs ds : List Int32) : SameT cs.length (fun j => cs.getD j 0) ds.length (fun j => ds.getD j 0) ↔ cs = ds := by
  constructor
  · rintro ⟨e, q⟩
    refine List.ext_getElem e fun j h1 h2 => ?_
    have := q j h1
    simpa [List.getD_eq_getElem?_getD, h1, h2] using this
  · rintro rfl
    exact ⟨rfl, fun _ _ => rfl⟩
/-- **equals(Object) OF TWO SUCH STRINGS**: 1 just where the chars are the same -/
theorem eqW {p : Program} {l : Launch} {e : Env} {R : Room} {s : State} {args : Array Value} {below : List Frame} {len W : Nat} {Z : State} {a0 : Array Value} {h : Heap} (hZ : Z.Warmed39 s.vm) (hw : ∀ d ∈ wordsEq, d.before a0 Z = true) {kI : Nat} (wi : (Jvm.Cond.instantiable ST kI).before a0 Z = true)
    {x t : Addr} {kb : ClassId} {cs : List Int32} {cd N2 : Int32} {vs : List Value} (E : RoadKit.Exa Z h x ST) (V : RoadKit.Fld Z h x ST "value" "[B" (.ref t)) (C : RoadKit.Fld Z h x ST "coder" "B" (.int cd)) (K : RoadKit.Arv Z h t kb .byte N2 vs (.int 0)) (hc : CodA cs cd N2 vs) (hb : ∀ c ∈ cs, ¬ c < 0 ∧ ¬ (65535 : Int32) < c) (l2 : cs.length ≤ 4000)
    {y t' : Addr} {kb' : ClassId} {ds : List Int32} {cd' N2' : Int32} {vs' : List Value} (E' : RoadKit.Exa Z h y ST) (V' : RoadKit.Fld Z h y ST "value" "[B" (.ref t')) (C' : RoadKit.Fld Z h y ST "coder" "B" (.int cd')) (K' : RoadKit.Arv Z h t' kb' .byte N2' vs' (.int 0)) (hc' : CodA ds cd' N2' vs') (hb' : ∀ c ∈ ds, ¬ c < 0 ∧ ¬ (65535 : Int32) < c) (l2' : ds.length ≤ 4000)
    {z : Int32} (S : RoadKit.Sta Z h ST "COMPACT_STRINGS" "Z" (.int z)) (hz : ¬ z = 0) (hfr : 2 ≤ R.frames) (hlo : W + 28 ≤ R.locals) :
    Back l R p e below s args (⟨"java/lang/String", "equals", "(Ljava/lang/Object;)Z"⟩ : MethodName) len W (fun P a => a = #[.ref x, .ref y] ∧ P.U.heap = h ∧ P.cells + 0 ≤ R.cells ∧ P.slots + 0 ≤ R.slots)
      (fun P _ v B => ∃ L, (((v = some (.int 1) ∧ cs = ds) ∨ (v = some (.int 0) ∧ ¬ cs = ds)) ∧ L = [] ∧ B.U.heap = h) ∧ B.locs = P.locs ++ L ∧ B.cells = P.cells + 0 ∧ B.slots = P.slots + 0) := by
  intro m meth c P g ig mk a X hg hsize hdg hW hn hp'
  obtain ⟨rfl, rfl, r1, r2⟩ := hp'
  have al : Z.vm.Alike P.U.vm := hZ.alike.trans X.warmed.alike
  obtain ⟨A, hx⟩ := txt_of wi al E V C K hc hb l2
  obtain ⟨A', hy⟩ := txt_of wi al E' V' C' K' hc' hb' l2'
  obtain ⟨v, B, X', ⟨⟨w, hv, hh, hq⟩, hl, hk, hs⟩, st⟩ := SEq.pays x t A cd cs.length (fun j => cs.getD j 0) y t' A' cd' ds.length (fun j => ds.getD j 0) z (tabEq_of (movedEq hZ hw)) hfr hlo m meth c P g ig mk _ X hg hsize hdg hW hn ⟨r1, r2, rfl, hx, hy, sta_is al S, hz⟩
  refine ⟨v, B, X', ⟨[], ⟨?_, rfl, hh⟩, hl, hk, hs⟩, st⟩
  rcases hq with ⟨rfl, q⟩ | ⟨rfl, q⟩
  · exact Or.inl ⟨hv, (same_list cs ds).mp q⟩
  · exact Or.inr ⟨hv, fun e => q ((same_list cs ds).mpr e)⟩
end StrChars.Road
namespace StrChars.Road
open Jvm Sem ClassFile Op Lib Jvm.Stand Jvm.Free Jvm.Free.XT
open Jvm.Lib.Cold (StaticIs)
/-- what backV says of its String, as the contracts of this text ask it: cs's low bytes, coder 0 -/
theorem codOf {cs : List Int32} {n : Nat} (hn : cs.length = n) (hb : ∀ c ∈ cs, ¬ 255 < c) : CodA cs 0 (Int32.ofNat n) ((cs.map lo8).map Value.int) := Or.inl ⟨rfl, by rw [hn], by simp [List.map_map, Function.comp_def], hb⟩
end StrChars.Road
end Jvm.Pilot.@@N@@

namespace Jvm.Pilot.@@N@@
open Jvm Jvm.ClassFile Sem Op Lib Jvm.Free Jvm.Stand Jvm.LawKit Jvm.RoadKit Bundle Jvm.Pilot.@@N@@.Jvm.D

theorem own_and255 (x : Int32) : ¬ nar .char ((x &&& (255 : Int32)).toUInt32.toUInt16.toUInt32.toInt32) < 0 ∧ ¬ (255 : Int32) < nar .char ((x &&& (255 : Int32)).toUInt32.toUInt16.toUInt32.toInt32) := by
  have t : ∀ k : Fin 256, ¬ nar .char ((Int32.ofNat k.val).toUInt32.toUInt16.toUInt32.toInt32) < 0 ∧ ¬ (255 : Int32) < nar .char ((Int32.ofNat k.val).toUInt32.toUInt16.toUInt32.toInt32) := by decide +kernel
  have h : (x &&& 255).toBitVec.toNat < 256 := by
    simp only [Int32.toBitVec_and, BitVec.toNat_and]
    exact Nat.lt_succ_of_le Nat.and_le_right
  have e : (x &&& 255) = Int32.ofNat (x &&& 255).toBitVec.toNat := by
    apply Int32.toBitVec_inj.mp
    show _ = BitVec.ofNat 32 _
    rw [BitVec.ofNat_toNat]; simp
  rw [e]
  exact t ⟨_, h⟩

theorem own_up (cs : List Int32) (h : ∀ c ∈ cs, ¬ c < 0 ∧ ¬ (255 : Int32) < c) : ∀ c ∈ cs, ¬ c < 0 ∧ ¬ (65535 : Int32) < c := fun c hc => ⟨(h c hc).1, fun q => (h c hc).2 (by rw [Int32.lt_iff_toInt_lt] at q ⊢; have e1 : (65535 : Int32).toInt = 65535 := rfl; have e2 : (255 : Int32).toInt = 255 := rfl; omega)⟩

theorem own_c255 (x : Int32) : ¬ (255 : Int32) < ((x &&& (255 : Int32)).toUInt32.toUInt16.toUInt32.toInt32) := by
  have t : ∀ k : Fin 256, ¬ (255 : Int32) < ((Int32.ofNat k.val).toUInt32.toUInt16.toUInt32.toInt32) := by decide +kernel
  have h : (x &&& 255).toBitVec.toNat < 256 := by
    simp only [Int32.toBitVec_and, BitVec.toNat_and]
    exact Nat.lt_succ_of_le Nat.and_le_right
  have e : (x &&& 255) = Int32.ofNat (x &&& 255).toBitVec.toNat := by
    apply Int32.toBitVec_inj.mp
    show _ = BitVec.ofNat 32 _
    rw [BitVec.ofNat_toNat]; simp
  rw [e]
  exact t ⟨_, h⟩

theorem own_lo8 (x : Int32) : (x.toInt8.toInt32).toInt8.toInt32 = x.toInt8.toInt32 := by simp
theorem pd___V : parseMethodDescriptor "()V" = some ⟨[], none⟩ := by decide +kernel
theorem pd____C : parseMethodDescriptor "()[C" = some ⟨[], some (.array .char)⟩ := by decide +kernel
theorem pd__C_Ljava_lang_String_ : parseMethodDescriptor "(C)Ljava/lang/String;" = some ⟨[.char], some (.object "java/lang/String")⟩ := by decide +kernel
theorem pd__C_Z : parseMethodDescriptor "(C)Z" = some ⟨[.char], some .boolean⟩ := by decide +kernel
theorem pd__C__B : parseMethodDescriptor "(C)[B" = some ⟨[.char], some (.array .byte)⟩ := by decide +kernel
theorem pd__C__C : parseMethodDescriptor "(C)[C" = some ⟨[.char], some (.array .char)⟩ := by decide +kernel
theorem pd__Ljava_lang_Object__Z : parseMethodDescriptor "(Ljava/lang/Object;)Z" = some ⟨[(.object "java/lang/Object")], some .boolean⟩ := by decide +kernel
theorem pd__Ljava_lang_String__Z : parseMethodDescriptor "(Ljava/lang/String;)Z" = some ⟨[(.object "java/lang/String")], some .boolean⟩ := by decide +kernel
theorem pd___BB_V : parseMethodDescriptor "([BB)V" = some ⟨[(.array .byte), .byte], none⟩ := by decide +kernel
theorem pd___C_V : parseMethodDescriptor "([C)V" = some ⟨[(.array .char)], none⟩ := by decide +kernel
theorem pd___CIILjava_lang_Void__V : parseMethodDescriptor "([CIILjava/lang/Void;)V" = some ⟨[(.array .char), .int, .int, (.object "java/lang/Void")], none⟩ := by decide +kernel
def own_EL : List (String × Nat) := [("com/example/tramway/tramway/poa/TramwayPoaManager", 66), ("com/example/tramway/tramway/poa/TramwayPoaManager", 76), ("com/example/tramway/tramway/poa/TramwayPoaManagerIs_aPinLaw", 33), ("com/example/tramway/tramway/poa/TramwayPoaManagerIs_aPinLaw", 35), ("com/example/tramway/tramway/poa/TramwayPoaManagerIs_aPinLaw", 37), ("java/lang/String", 7)]
theorem own_hEL {Z : State} {a0 : Array Value} (hw : ∀ d ∈ tables_1, d.before a0 Z = true) : EW Z a0 own_EL := (EW.cons (hw _ (List.mem_of_getElem? (i := 52) rfl)) (by decide) (EW.cons (hw _ (List.mem_of_getElem? (i := 65) rfl)) (by decide) (EW.cons (hw _ (List.mem_of_getElem? (i := 69) rfl)) (by decide) (EW.cons (hw _ (List.mem_of_getElem? (i := 85) rfl)) (by decide) (EW.cons (hw _ (List.mem_of_getElem? (i := 87) rfl)) (by decide) (EW.cons (hw _ (List.mem_of_getElem? (i := 86) rfl)) (by decide) EW.nil))))))
theorem own_hsA {Z : State} {a0 : Array Value} (hw : ∀ d ∈ tables_1, d.before a0 Z = true) : ∀ a ∈ Bundle.stringAtoms, a.before a0 Z = true := by
  intro d hd
  simp only [Bundle.stringAtoms, List.mem_cons, List.not_mem_nil, or_false] at hd
  rcases hd with rfl | rfl | rfl | rfl | rfl | rfl | rfl
  · exact (hw _ (List.mem_of_getElem? (i := 22) rfl))
  · exact (hw _ (List.mem_of_getElem? (i := 21) rfl))
  · exact (hw _ (List.mem_of_getElem? (i := 36) rfl))
  · exact (hw _ (List.mem_of_getElem? (i := 46) rfl))
  · exact (hw _ (List.mem_of_getElem? (i := 44) rfl))
  · exact (hw _ (List.mem_of_getElem? (i := 53) rfl))
  · exact (hw _ (List.mem_of_getElem? (i := 54) rfl))
def own_L0 : List Int32 := [(73 : Int32), (68 : Int32), (76 : Int32), (58 : Int32), (111 : Int32), (109 : Int32), (103 : Int32), (46 : Int32), (111 : Int32), (114 : Int32), (103 : Int32), (47 : Int32), (80 : Int32), (111 : Int32), (114 : Int32), (116 : Int32), (97 : Int32), (98 : Int32), (108 : Int32), (101 : Int32), (83 : Int32), (101 : Int32), (114 : Int32), (118 : Int32), (101 : Int32), (114 : Int32), (47 : Int32), (80 : Int32), (79 : Int32), (65 : Int32), (77 : Int32), (97 : Int32), (110 : Int32), (97 : Int32), (103 : Int32), (101 : Int32), (114 : Int32), (58 : Int32), (50 : Int32), (46 : Int32), (51 : Int32)]
theorem own_txt_0 : (∀ c ∈ ("IDL:omg.org/PortableServer/POAManager:2.3" : String).toList, c.toNat < 256) ∧ ("IDL:omg.org/PortableServer/POAManager:2.3" : String).toList.map (fun c => Value.int (Jvm.Lit.byteI c.toNat.toUInt16)) = ((own_L0.map (fun c => c.toInt8.toInt32)).map Value.int) := ⟨by decide +kernel, by decide +kernel⟩
def own_L1 : List Int32 := [(73 : Int32), (68 : Int32), (76 : Int32), (58 : Int32), (111 : Int32), (109 : Int32), (103 : Int32), (46 : Int32), (111 : Int32), (114 : Int32), (103 : Int32), (47 : Int32), (67 : Int32), (79 : Int32), (82 : Int32), (66 : Int32), (65 : Int32), (47 : Int32), (79 : Int32), (98 : Int32), (106 : Int32), (101 : Int32), (99 : Int32), (116 : Int32), (58 : Int32), (49 : Int32), (46 : Int32), (48 : Int32)]
theorem own_txt_1 : (∀ c ∈ ("IDL:omg.org/CORBA/Object:1.0" : String).toList, c.toNat < 256) ∧ ("IDL:omg.org/CORBA/Object:1.0" : String).toList.map (fun c => Value.int (Jvm.Lit.byteI c.toNat.toUInt16)) = ((own_L1.map (fun c => c.toInt8.toInt32)).map Value.int) := ⟨by decide +kernel, by decide +kernel⟩
def own_L2 : List Int32 := [(73 : Int32), (68 : Int32), (76 : Int32), (58 : Int32), (111 : Int32), (109 : Int32), (103 : Int32), (46 : Int32), (111 : Int32), (114 : Int32), (103 : Int32), (47 : Int32), (80 : Int32), (111 : Int32), (114 : Int32), (116 : Int32), (97 : Int32), (98 : Int32), (108 : Int32), (101 : Int32), (83 : Int32), (101 : Int32), (114 : Int32), (118 : Int32), (101 : Int32), (114 : Int32), (47 : Int32), (80 : Int32), (79 : Int32), (65 : Int32), (58 : Int32), (50 : Int32), (46 : Int32), (51 : Int32)]
theorem own_txt_2 : (∀ c ∈ ("IDL:omg.org/PortableServer/POA:2.3" : String).toList, c.toNat < 256) ∧ ("IDL:omg.org/PortableServer/POA:2.3" : String).toList.map (fun c => Value.int (Jvm.Lit.byteI c.toNat.toUInt16)) = ((own_L2.map (fun c => c.toInt8.toInt32)).map Value.int) := ⟨by decide +kernel, by decide +kernel⟩
def own_L3 : List Int32 := [(73 : Int32), (68 : Int32), (76 : Int32), (58 : Int32), (111 : Int32), (109 : Int32), (103 : Int32), (46 : Int32), (111 : Int32), (114 : Int32), (103 : Int32), (47 : Int32), (80 : Int32), (111 : Int32), (114 : Int32), (116 : Int32), (97 : Int32), (98 : Int32), (108 : Int32), (101 : Int32), (83 : Int32), (101 : Int32), (114 : Int32), (118 : Int32), (101 : Int32), (114 : Int32), (47 : Int32), (80 : Int32), (79 : Int32), (65 : Int32), (77 : Int32), (97 : Int32), (110 : Int32), (97 : Int32), (103 : Int32), (101 : Int32), (114 : Int32)]
theorem own_txt_3 : (∀ c ∈ ("IDL:omg.org/PortableServer/POAManager" : String).toList, c.toNat < 256) ∧ ("IDL:omg.org/PortableServer/POAManager" : String).toList.map (fun c => Value.int (Jvm.Lit.byteI c.toNat.toUInt16)) = ((own_L3.map (fun c => c.toInt8.toInt32)).map Value.int) := ⟨by decide +kernel, by decide +kernel⟩
def own_L4 : List Int32 := [(73 : Int32), (68 : Int32), (76 : Int32), (58 : Int32), (111 : Int32), (109 : Int32), (103 : Int32), (46 : Int32), (111 : Int32), (114 : Int32), (103 : Int32), (47 : Int32), (67 : Int32), (79 : Int32), (82 : Int32), (66 : Int32), (65 : Int32), (47 : Int32), (79 : Int32), (98 : Int32), (106 : Int32), (101 : Int32), (99 : Int32), (116 : Int32)]
theorem own_txt_4 : (∀ c ∈ ("IDL:omg.org/CORBA/Object" : String).toList, c.toNat < 256) ∧ ("IDL:omg.org/CORBA/Object" : String).toList.map (fun c => Value.int (Jvm.Lit.byteI c.toNat.toUInt16)) = ((own_L4.map (fun c => c.toInt8.toInt32)).map Value.int) := ⟨by decide +kernel, by decide +kernel⟩
def own_L5 : List Int32 := []
theorem own_txt_5 : (∀ c ∈ ("" : String).toList, c.toNat < 256) ∧ ("" : String).toList.map (fun c => Value.int (Jvm.Lit.byteI c.toNat.toUInt16)) = ((own_L5.map (fun c => c.toInt8.toInt32)).map Value.int) := ⟨by decide +kernel, by decide +kernel⟩
theorem own_safe_null {Z : State} {h : Heap} {x : Addr} {vm : Vm} {EL : List (String × Nat)} {a0 : Array Value} {kk : Nat} (hal : Z.vm.Alike vm) (E : Exa Z h x "java/lang/String") (F : Fld Z h x "java/lang/String" "value" "[B" .null) (wi : (Jvm.Cond.instantiable "java/lang/String" kk).before a0 Z = true) : Safe Z EL vm h x := fun B => by
  obtain ⟨cell, k, e1, e2, e3, -, -⟩ := E
  obtain ⟨c2, k2, i1, i2, i3, -⟩ := Cond.instantiable_spec wi
  cases e2.symm.trans i1
  cases e3.symm.trans i2
  obtain ⟨cell', cf, kf, i, f, f1, f2, f3, f4, f5, f6, f7⟩ := F
  cases e1.symm.trans f1
  obtain ⟨p, -, u, a, -, q, -, G, rfl | rfl⟩ := B
  · cases (show h[q.sa]? = some q.sC from G.ha).symm.trans e1
    obtain ⟨cS, ⟨⟨s1, s2, s3, ⟨cv, kv, iv, s4, s4'⟩, -, s6, s7, s8, -⟩, -, -⟩, -⟩ := G
    obtain ⟨kv', z4⟩ := ff_back (U := Wst Z vm h) hal s4
    cases f2.symm.trans z4
    cases f7.symm.trans s8
  · cases (show h[q.sd]? = some q.SA from G.hd).symm.trans e1
    obtain ⟨cS, ⟨⟨-, -, -, -, -, -, -, -, -, -, ⟨-, kB, hkB, compB, hkindB⟩, -⟩, -, -⟩, -⟩ := G
    obtain ⟨kA', hkA', ekA⟩ := hal.2.2 _ _ e3
    cases (show vm.classes[q.SA.cls]? = some kB from hkB).symm.trans hkA'
    rw [ekA] at hkindB
    have := i3.symm.trans hkindB
    cases this
theorem own_lr0 : ∀ c ∈ own_L0, ¬ c < 0 ∧ ¬ (255 : Int32) < c := by decide +kernel
theorem own_lr1 : ∀ c ∈ own_L1, ¬ c < 0 ∧ ¬ (255 : Int32) < c := by decide +kernel
theorem own_lr2 : ∀ c ∈ own_L2, ¬ c < 0 ∧ ¬ (255 : Int32) < c := by decide +kernel
theorem own_lr3 : ∀ c ∈ own_L3, ¬ c < 0 ∧ ¬ (255 : Int32) < c := by decide +kernel
theorem own_lr4 : ∀ c ∈ own_L4, ¬ c < 0 ∧ ¬ (255 : Int32) < c := by decide +kernel
theorem own_i32 {n : Nat} (h : n < 2147483648) : (Int32.ofNat n).toInt = (n : Int) := by
  rw [Int32.toInt_ofNat_of_lt (by simpa using h)]
theorem own_i32_eq {x : Int32} {n : Nat} (h : n < 2147483648) (e : x.toInt = (n : Int)) : x = Int32.ofNat n := by
  apply Int32.toInt_inj.mp; rw [own_i32 h]; exact e
theorem own_nn {n : Nat} (h : n < 2147483648) : ¬ (Int32.ofNat n < 0) := by
  rw [Int32.lt_iff_toInt_lt, own_i32 h]; have : (0 : Int32).toInt = 0 := rfl; omega
theorem own_lt32 {a b : Nat} (h : a < b) (hb : b < 2147483648) : Int32.ofNat a < Int32.ofNat b := by
  rw [Int32.lt_iff_toInt_lt, own_i32 (by omega), own_i32 hb]; omega
theorem own_clamp {n : Nat} (h : n < 2147483648) : (Int32.ofNat n).toNatClampNeg = n := by
  show (Int32.ofNat n).toInt.toNat = n
  rw [own_i32 h]; simp
theorem own_idx (x m : Int32) (hm : 0 < m.toInt) : ∃ n : Nat, (n : Int) < m.toInt ∧ ((x &&& (2147483647 : Int32)) % m) = Int32.ofNat n := by
  have h0 := (c_and x (2147483647 : Int32) (by decide)).1
  have h1 := (c_iremV (x &&& (2147483647 : Int32)) m).1 h0 hm
  have h2 := (rng32 m).2
  refine ⟨((x &&& (2147483647 : Int32)) % m).toInt.toNat, by omega, ?_⟩
  exact own_i32_eq (by omega) (by omega)
theorem own_idx41 (x : Int32) : ∃ n : Nat, n < 41 ∧ ((x &&& (2147483647 : Int32)) % (41 : Int32)) = Int32.ofNat n := by
  obtain ⟨n, h, e⟩ := own_idx x (41 : Int32) (by decide)
  exact ⟨n, by have : (41 : Int32).toInt = 41 := rfl; omega, e⟩
theorem own_idx28 (x : Int32) : ∃ n : Nat, n < 28 ∧ ((x &&& (2147483647 : Int32)) % (28 : Int32)) = Int32.ofNat n := by
  obtain ⟨n, h, e⟩ := own_idx x (28 : Int32) (by decide)
  exact ⟨n, by have : (28 : Int32).toInt = 28 := rfl; omega, e⟩
theorem own_nar2 (x : Int32) : nar .char ((x &&& (255 : Int32)).toUInt32.toUInt16.toUInt32.toInt32) = ((x &&& (255 : Int32)).toUInt32.toUInt16.toUInt32.toInt32) := by simp only [nar, UInt32.toUInt32_toInt32, UInt16.toUInt16_toUInt32]
theorem own_getv (xs : List Int32) (i : Nat) (h : i < xs.length) : (xs.map Value.int).getD i (.int (0 : Int32)) = .int (xs.getD i 0) := by
  simp [List.getD, List.getElem?_eq_getElem h]
theorem own_setv (xs : List Int32) (i : Nat) (c : Int32) (h : nar .char c = c) : (xs.map Value.int).set i (.int (nar .char c)) = (xs.set i c).map Value.int := by
  rw [h, List.map_set]
theorem own_getset (xs : List Int32) (i : Nat) (c : Int32) (h : i < xs.length) : ((xs.set i c).map Value.int).getD i (.int (0 : Int32)) = .int c := by
  simp [List.getD, h]
theorem own_set_same (xs : List Int32) (i : Nat) (c : Int32) (h : i < xs.length) (e : c = xs.getD i 0) : xs = xs.set i c := by
  have : c = xs[i] := by rw [e]; simp [List.getD, List.getElem?_eq_getElem h]
  rw [this, List.set_getElem_self]
theorem own_set_rng {xs : List Int32} {i : Nat} {c : Int32} (h : ∀ z ∈ xs, ¬ z < 0 ∧ ¬ (255 : Int32) < z) (hc : ¬ c < 0 ∧ ¬ (255 : Int32) < c) : ∀ z ∈ xs.set i c, ¬ z < 0 ∧ ¬ (255 : Int32) < z := fun z hz => (List.mem_or_eq_of_mem_set hz).elim (h z) (fun e => e ▸ hc)
theorem own_app_rng {xs : List Int32} {c : Int32} (h : ∀ z ∈ xs, ¬ z < 0 ∧ ¬ (255 : Int32) < z) (hc : ¬ c < 0 ∧ ¬ (255 : Int32) < c) : ∀ z ∈ xs ++ [c], ¬ z < 0 ∧ ¬ (255 : Int32) < z := fun z hz => (List.mem_append.mp hz).elim (h z) (fun e => (List.mem_singleton.mp e) ▸ hc)
theorem own_short {cs : List Int32} (h : cs.length < 4) : ¬ (own_L0 = cs ∨ own_L1 = cs) := by
  rintro (e | e)
  · rw [← e] at h; exact absurd h (by decide)
  · rw [← e] at h; exact absurd h (by decide)
theorem own_long {cs : List Int32} (h : cs.length = 42 ∨ cs.length = 29) : ¬ (own_L0 = cs ∨ own_L1 = cs) := by
  rintro (e | e)
  · rw [← e] at h; exact absurd h (by decide)
  · rw [← e] at h; exact absurd h (by decide)
theorem own_set_ne0 {i : Nat} {c : Int32} (h : i < 41) (n : ¬ (c = own_L0.getD i 0)) : ¬ (own_L0 = own_L0.set i c ∨ own_L1 = own_L0.set i c) := by
  rintro (e | e)
  · have h' : i < own_L0.length := h
    have q := congrArg (fun l => l.getD i 0) e
    simp [List.getD, h'] at q
    exact n (by rw [← q]; simp [List.getD, h'])
  · have q := congrArg List.length e
    rw [List.length_set] at q
    exact absurd q (by decide)
theorem own_set_ne1 {i : Nat} {c : Int32} (h : i < 28) (n : ¬ (c = own_L1.getD i 0)) : ¬ (own_L0 = own_L1.set i c ∨ own_L1 = own_L1.set i c) := by
  rintro (e | e)
  · have q := congrArg List.length e
    rw [List.length_set] at q
    exact absurd q (by decide)
  · have h' : i < own_L1.length := h
    have q := congrArg (fun l => l.getD i 0) e
    simp [List.getD, h'] at q
    exact n (by rw [← q]; simp [List.getD, h'])
def QA (Z : State) (n : Int32) (cs : List Int32) (h0 : Heap) (n0 : Nat) (v : Option Value) (h : Heap) (L : List Loc) : Prop := ∃ (b : Addr) (k : ClassId), v = some (.ref b) ∧ Fr n0 L ∧ Keep h0 h [] ∧ n0 ≤ b ∧ h0.size ≤ b ∧ Arv Z h b k .char n (cs.map Value.int) (.int (0 : Int32))
theorem dmgr_0 : decode method_2_code 0 = .ok (.bipush 41, 2) := by decide +kernel
theorem dmgr_2 : decode method_2_code 2 = .ok (.newarray .char, 2) := by decide +kernel
theorem dmgr_4 : decode method_2_code 4 = .ok (.dup, 1) := by decide +kernel
theorem dmgr_5 : decode method_2_code 5 = .ok (.iconst 0, 1) := by decide +kernel
theorem dmgr_6 : decode method_2_code 6 = .ok (.bipush 73, 2) := by decide +kernel
theorem dmgr_8 : decode method_2_code 8 = .ok (.castore, 1) := by decide +kernel
theorem dmgr_9 : decode method_2_code 9 = .ok (.dup, 1) := by decide +kernel
theorem dmgr_10 : decode method_2_code 10 = .ok (.iconst 1, 1) := by decide +kernel
theorem dmgr_11 : decode method_2_code 11 = .ok (.bipush 68, 2) := by decide +kernel
theorem dmgr_13 : decode method_2_code 13 = .ok (.castore, 1) := by decide +kernel
theorem dmgr_14 : decode method_2_code 14 = .ok (.dup, 1) := by decide +kernel
theorem dmgr_15 : decode method_2_code 15 = .ok (.iconst 2, 1) := by decide +kernel
theorem dmgr_16 : decode method_2_code 16 = .ok (.bipush 76, 2) := by decide +kernel
theorem dmgr_18 : decode method_2_code 18 = .ok (.castore, 1) := by decide +kernel
theorem dmgr_19 : decode method_2_code 19 = .ok (.dup, 1) := by decide +kernel
theorem dmgr_20 : decode method_2_code 20 = .ok (.iconst 3, 1) := by decide +kernel
theorem dmgr_21 : decode method_2_code 21 = .ok (.bipush 58, 2) := by decide +kernel
theorem dmgr_23 : decode method_2_code 23 = .ok (.castore, 1) := by decide +kernel
theorem dmgr_24 : decode method_2_code 24 = .ok (.dup, 1) := by decide +kernel
theorem dmgr_25 : decode method_2_code 25 = .ok (.iconst 4, 1) := by decide +kernel
theorem dmgr_26 : decode method_2_code 26 = .ok (.bipush 111, 2) := by decide +kernel
theorem dmgr_28 : decode method_2_code 28 = .ok (.castore, 1) := by decide +kernel
theorem dmgr_29 : decode method_2_code 29 = .ok (.dup, 1) := by decide +kernel
theorem dmgr_30 : decode method_2_code 30 = .ok (.iconst 5, 1) := by decide +kernel
theorem dmgr_31 : decode method_2_code 31 = .ok (.bipush 109, 2) := by decide +kernel
theorem dmgr_33 : decode method_2_code 33 = .ok (.castore, 1) := by decide +kernel
theorem dmgr_34 : decode method_2_code 34 = .ok (.dup, 1) := by decide +kernel
theorem dmgr_35 : decode method_2_code 35 = .ok (.bipush 6, 2) := by decide +kernel
theorem dmgr_37 : decode method_2_code 37 = .ok (.bipush 103, 2) := by decide +kernel
theorem dmgr_39 : decode method_2_code 39 = .ok (.castore, 1) := by decide +kernel
theorem dmgr_40 : decode method_2_code 40 = .ok (.dup, 1) := by decide +kernel
theorem dmgr_41 : decode method_2_code 41 = .ok (.bipush 7, 2) := by decide +kernel
theorem dmgr_43 : decode method_2_code 43 = .ok (.bipush 46, 2) := by decide +kernel
theorem dmgr_45 : decode method_2_code 45 = .ok (.castore, 1) := by decide +kernel
theorem dmgr_46 : decode method_2_code 46 = .ok (.dup, 1) := by decide +kernel
theorem dmgr_47 : decode method_2_code 47 = .ok (.bipush 8, 2) := by decide +kernel
theorem dmgr_49 : decode method_2_code 49 = .ok (.bipush 111, 2) := by decide +kernel
theorem dmgr_51 : decode method_2_code 51 = .ok (.castore, 1) := by decide +kernel
theorem dmgr_52 : decode method_2_code 52 = .ok (.dup, 1) := by decide +kernel
theorem dmgr_53 : decode method_2_code 53 = .ok (.bipush 9, 2) := by decide +kernel
theorem dmgr_55 : decode method_2_code 55 = .ok (.bipush 114, 2) := by decide +kernel
theorem dmgr_57 : decode method_2_code 57 = .ok (.castore, 1) := by decide +kernel
theorem dmgr_58 : decode method_2_code 58 = .ok (.dup, 1) := by decide +kernel
theorem dmgr_59 : decode method_2_code 59 = .ok (.bipush 10, 2) := by decide +kernel
theorem dmgr_61 : decode method_2_code 61 = .ok (.bipush 103, 2) := by decide +kernel
theorem dmgr_63 : decode method_2_code 63 = .ok (.castore, 1) := by decide +kernel
theorem dmgr_64 : decode method_2_code 64 = .ok (.dup, 1) := by decide +kernel
theorem dmgr_65 : decode method_2_code 65 = .ok (.bipush 11, 2) := by decide +kernel
theorem dmgr_67 : decode method_2_code 67 = .ok (.bipush 47, 2) := by decide +kernel
theorem dmgr_69 : decode method_2_code 69 = .ok (.castore, 1) := by decide +kernel
theorem dmgr_70 : decode method_2_code 70 = .ok (.dup, 1) := by decide +kernel
theorem dmgr_71 : decode method_2_code 71 = .ok (.bipush 12, 2) := by decide +kernel
theorem dmgr_73 : decode method_2_code 73 = .ok (.bipush 80, 2) := by decide +kernel
theorem dmgr_75 : decode method_2_code 75 = .ok (.castore, 1) := by decide +kernel
theorem dmgr_76 : decode method_2_code 76 = .ok (.dup, 1) := by decide +kernel
theorem dmgr_77 : decode method_2_code 77 = .ok (.bipush 13, 2) := by decide +kernel
theorem dmgr_79 : decode method_2_code 79 = .ok (.bipush 111, 2) := by decide +kernel
theorem dmgr_81 : decode method_2_code 81 = .ok (.castore, 1) := by decide +kernel
theorem dmgr_82 : decode method_2_code 82 = .ok (.dup, 1) := by decide +kernel
theorem dmgr_83 : decode method_2_code 83 = .ok (.bipush 14, 2) := by decide +kernel
theorem dmgr_85 : decode method_2_code 85 = .ok (.bipush 114, 2) := by decide +kernel
theorem dmgr_87 : decode method_2_code 87 = .ok (.castore, 1) := by decide +kernel
theorem dmgr_88 : decode method_2_code 88 = .ok (.dup, 1) := by decide +kernel
theorem dmgr_89 : decode method_2_code 89 = .ok (.bipush 15, 2) := by decide +kernel
theorem dmgr_91 : decode method_2_code 91 = .ok (.bipush 116, 2) := by decide +kernel
theorem dmgr_93 : decode method_2_code 93 = .ok (.castore, 1) := by decide +kernel
theorem dmgr_94 : decode method_2_code 94 = .ok (.dup, 1) := by decide +kernel
theorem dmgr_95 : decode method_2_code 95 = .ok (.bipush 16, 2) := by decide +kernel
theorem dmgr_97 : decode method_2_code 97 = .ok (.bipush 97, 2) := by decide +kernel
theorem dmgr_99 : decode method_2_code 99 = .ok (.castore, 1) := by decide +kernel
theorem dmgr_100 : decode method_2_code 100 = .ok (.dup, 1) := by decide +kernel
theorem dmgr_101 : decode method_2_code 101 = .ok (.bipush 17, 2) := by decide +kernel
theorem dmgr_103 : decode method_2_code 103 = .ok (.bipush 98, 2) := by decide +kernel
theorem dmgr_105 : decode method_2_code 105 = .ok (.castore, 1) := by decide +kernel
theorem dmgr_106 : decode method_2_code 106 = .ok (.dup, 1) := by decide +kernel
theorem dmgr_107 : decode method_2_code 107 = .ok (.bipush 18, 2) := by decide +kernel
theorem dmgr_109 : decode method_2_code 109 = .ok (.bipush 108, 2) := by decide +kernel
theorem dmgr_111 : decode method_2_code 111 = .ok (.castore, 1) := by decide +kernel
theorem dmgr_112 : decode method_2_code 112 = .ok (.dup, 1) := by decide +kernel
theorem dmgr_113 : decode method_2_code 113 = .ok (.bipush 19, 2) := by decide +kernel
theorem dmgr_115 : decode method_2_code 115 = .ok (.bipush 101, 2) := by decide +kernel
theorem dmgr_117 : decode method_2_code 117 = .ok (.castore, 1) := by decide +kernel
theorem dmgr_118 : decode method_2_code 118 = .ok (.dup, 1) := by decide +kernel
theorem dmgr_119 : decode method_2_code 119 = .ok (.bipush 20, 2) := by decide +kernel
theorem dmgr_121 : decode method_2_code 121 = .ok (.bipush 83, 2) := by decide +kernel
theorem dmgr_123 : decode method_2_code 123 = .ok (.castore, 1) := by decide +kernel
theorem dmgr_124 : decode method_2_code 124 = .ok (.dup, 1) := by decide +kernel
theorem dmgr_125 : decode method_2_code 125 = .ok (.bipush 21, 2) := by decide +kernel
theorem dmgr_127 : decode method_2_code 127 = .ok (.bipush 101, 2) := by decide +kernel
theorem dmgr_129 : decode method_2_code 129 = .ok (.castore, 1) := by decide +kernel
theorem dmgr_130 : decode method_2_code 130 = .ok (.dup, 1) := by decide +kernel
theorem dmgr_131 : decode method_2_code 131 = .ok (.bipush 22, 2) := by decide +kernel
theorem dmgr_133 : decode method_2_code 133 = .ok (.bipush 114, 2) := by decide +kernel
theorem dmgr_135 : decode method_2_code 135 = .ok (.castore, 1) := by decide +kernel
theorem dmgr_136 : decode method_2_code 136 = .ok (.dup, 1) := by decide +kernel
theorem dmgr_137 : decode method_2_code 137 = .ok (.bipush 23, 2) := by decide +kernel
theorem dmgr_139 : decode method_2_code 139 = .ok (.bipush 118, 2) := by decide +kernel
theorem dmgr_141 : decode method_2_code 141 = .ok (.castore, 1) := by decide +kernel
theorem dmgr_142 : decode method_2_code 142 = .ok (.dup, 1) := by decide +kernel
theorem dmgr_143 : decode method_2_code 143 = .ok (.bipush 24, 2) := by decide +kernel
theorem dmgr_145 : decode method_2_code 145 = .ok (.bipush 101, 2) := by decide +kernel
theorem dmgr_147 : decode method_2_code 147 = .ok (.castore, 1) := by decide +kernel
theorem dmgr_148 : decode method_2_code 148 = .ok (.dup, 1) := by decide +kernel
theorem dmgr_149 : decode method_2_code 149 = .ok (.bipush 25, 2) := by decide +kernel
theorem dmgr_151 : decode method_2_code 151 = .ok (.bipush 114, 2) := by decide +kernel
theorem dmgr_153 : decode method_2_code 153 = .ok (.castore, 1) := by decide +kernel
theorem dmgr_154 : decode method_2_code 154 = .ok (.dup, 1) := by decide +kernel
theorem dmgr_155 : decode method_2_code 155 = .ok (.bipush 26, 2) := by decide +kernel
theorem dmgr_157 : decode method_2_code 157 = .ok (.bipush 47, 2) := by decide +kernel
theorem dmgr_159 : decode method_2_code 159 = .ok (.castore, 1) := by decide +kernel
theorem dmgr_160 : decode method_2_code 160 = .ok (.dup, 1) := by decide +kernel
theorem dmgr_161 : decode method_2_code 161 = .ok (.bipush 27, 2) := by decide +kernel
theorem dmgr_163 : decode method_2_code 163 = .ok (.bipush 80, 2) := by decide +kernel
theorem dmgr_165 : decode method_2_code 165 = .ok (.castore, 1) := by decide +kernel
theorem dmgr_166 : decode method_2_code 166 = .ok (.dup, 1) := by decide +kernel
theorem dmgr_167 : decode method_2_code 167 = .ok (.bipush 28, 2) := by decide +kernel
theorem dmgr_169 : decode method_2_code 169 = .ok (.bipush 79, 2) := by decide +kernel
theorem dmgr_171 : decode method_2_code 171 = .ok (.castore, 1) := by decide +kernel
theorem dmgr_172 : decode method_2_code 172 = .ok (.dup, 1) := by decide +kernel
theorem dmgr_173 : decode method_2_code 173 = .ok (.bipush 29, 2) := by decide +kernel
theorem dmgr_175 : decode method_2_code 175 = .ok (.bipush 65, 2) := by decide +kernel
theorem dmgr_177 : decode method_2_code 177 = .ok (.castore, 1) := by decide +kernel
theorem dmgr_178 : decode method_2_code 178 = .ok (.dup, 1) := by decide +kernel
theorem dmgr_179 : decode method_2_code 179 = .ok (.bipush 30, 2) := by decide +kernel
theorem dmgr_181 : decode method_2_code 181 = .ok (.bipush 77, 2) := by decide +kernel
theorem dmgr_183 : decode method_2_code 183 = .ok (.castore, 1) := by decide +kernel
theorem dmgr_184 : decode method_2_code 184 = .ok (.dup, 1) := by decide +kernel
theorem dmgr_185 : decode method_2_code 185 = .ok (.bipush 31, 2) := by decide +kernel
theorem dmgr_187 : decode method_2_code 187 = .ok (.bipush 97, 2) := by decide +kernel
theorem dmgr_189 : decode method_2_code 189 = .ok (.castore, 1) := by decide +kernel
theorem dmgr_190 : decode method_2_code 190 = .ok (.dup, 1) := by decide +kernel
theorem dmgr_191 : decode method_2_code 191 = .ok (.bipush 32, 2) := by decide +kernel
theorem dmgr_193 : decode method_2_code 193 = .ok (.bipush 110, 2) := by decide +kernel
theorem dmgr_195 : decode method_2_code 195 = .ok (.castore, 1) := by decide +kernel
theorem dmgr_196 : decode method_2_code 196 = .ok (.dup, 1) := by decide +kernel
theorem dmgr_197 : decode method_2_code 197 = .ok (.bipush 33, 2) := by decide +kernel
theorem dmgr_199 : decode method_2_code 199 = .ok (.bipush 97, 2) := by decide +kernel
theorem dmgr_201 : decode method_2_code 201 = .ok (.castore, 1) := by decide +kernel
theorem dmgr_202 : decode method_2_code 202 = .ok (.dup, 1) := by decide +kernel
theorem dmgr_203 : decode method_2_code 203 = .ok (.bipush 34, 2) := by decide +kernel
theorem dmgr_205 : decode method_2_code 205 = .ok (.bipush 103, 2) := by decide +kernel
theorem dmgr_207 : decode method_2_code 207 = .ok (.castore, 1) := by decide +kernel
theorem dmgr_208 : decode method_2_code 208 = .ok (.dup, 1) := by decide +kernel
theorem dmgr_209 : decode method_2_code 209 = .ok (.bipush 35, 2) := by decide +kernel
theorem dmgr_211 : decode method_2_code 211 = .ok (.bipush 101, 2) := by decide +kernel
theorem dmgr_213 : decode method_2_code 213 = .ok (.castore, 1) := by decide +kernel
theorem dmgr_214 : decode method_2_code 214 = .ok (.dup, 1) := by decide +kernel
theorem dmgr_215 : decode method_2_code 215 = .ok (.bipush 36, 2) := by decide +kernel
theorem dmgr_217 : decode method_2_code 217 = .ok (.bipush 114, 2) := by decide +kernel
theorem dmgr_219 : decode method_2_code 219 = .ok (.castore, 1) := by decide +kernel
theorem dmgr_220 : decode method_2_code 220 = .ok (.dup, 1) := by decide +kernel
theorem dmgr_221 : decode method_2_code 221 = .ok (.bipush 37, 2) := by decide +kernel
theorem dmgr_223 : decode method_2_code 223 = .ok (.bipush 58, 2) := by decide +kernel
theorem dmgr_225 : decode method_2_code 225 = .ok (.castore, 1) := by decide +kernel
theorem dmgr_226 : decode method_2_code 226 = .ok (.dup, 1) := by decide +kernel
theorem dmgr_227 : decode method_2_code 227 = .ok (.bipush 38, 2) := by decide +kernel
theorem dmgr_229 : decode method_2_code 229 = .ok (.bipush 50, 2) := by decide +kernel
theorem dmgr_231 : decode method_2_code 231 = .ok (.castore, 1) := by decide +kernel
theorem dmgr_232 : decode method_2_code 232 = .ok (.dup, 1) := by decide +kernel
theorem dmgr_233 : decode method_2_code 233 = .ok (.bipush 39, 2) := by decide +kernel
theorem dmgr_235 : decode method_2_code 235 = .ok (.bipush 46, 2) := by decide +kernel
theorem dmgr_237 : decode method_2_code 237 = .ok (.castore, 1) := by decide +kernel
theorem dmgr_238 : decode method_2_code 238 = .ok (.dup, 1) := by decide +kernel
theorem dmgr_239 : decode method_2_code 239 = .ok (.bipush 40, 2) := by decide +kernel
theorem dmgr_241 : decode method_2_code 241 = .ok (.bipush 51, 2) := by decide +kernel
theorem dmgr_243 : decode method_2_code 243 = .ok (.castore, 1) := by decide +kernel
theorem dmgr_244 : decode method_2_code 244 = .ok (.areturn, 1) := by decide +kernel
theorem pnL : plainName "com/example/tramway/tramway/poa/TramwayPoaManagerIs_aPinLaw" = true := by first | (simp [plainName, overriddenIn]; done) | decide +kernel
theorem ef_mgr (m : MethodId)  : entryFrame m #[] 0 = mkF m 0 #[] [] := by first | (simp [entryFrame, mkF, argsToLocals, Value.category]; done) | rfl
set_option maxRecDepth 65536 in
set_option maxHeartbeats 40000000 in
theorem rm_mgr (l : Launch) (Z : State) (a0 : Array Value) (hw : ∀ d ∈ tables_1, d.before a0 Z = true) (ws : List Jvm.Cond)  (h0 : Heap) (n0 : Nat) (Z0 : n0 ≤ h0.size) :
    MetFree l (⟨"com/example/tramway/tramway/poa/TramwayPoaManagerIs_aPinLaw", "mgr", "()[C"⟩ : MethodName) (head1 (Jvm.Cond.code (⟨"com/example/tramway/tramway/poa/TramwayPoaManagerIs_aPinLaw", "mgr", "()[C"⟩ : MethodName) method_2_code 0 (some (.array .char)) :: ws) ({ frames := 0, cells := 1, slots := 41, locals := 0 } : Room)) (fun a U => a = #[] ∧ Z.Warmed39 U.vm ∧ U.heap = h0) (fun _ _ _ _ _ => True) (fun _ U o U' => ∃ v L, o = .returned v ∧ QA Z (41 : Int32) own_L0 h0 n0 v U'.heap L ∧ FrameEnd U o U' L ({ frames := 0, cells := 1, slots := 41, locals := 0 } : Room).cells ({ frames := 0, cells := 1, slots := 41, locals := 0 } : Room).slots) := by
  refine MetFree.of_bodySF (plainFor_of_name pnL) hisR ?_
  intro p e s m args below meth c s₁ Bd hml0 hP hK
  obtain ⟨rfl, hZ, hh⟩ := hP
  have hx := Bd.exec
  have hby := Bd.bytes
  have hml : c.maxLocals = 0 := hml0
  have hown : s.vm.findClass "com/example/tramway/tramway/poa/TramwayPoaManagerIs_aPinLaw" = some m.cls := findClass_of_methodNamed Bd.named
  have hnm := (name_of_methodNamed Bd.named Bd.method).1
  have X0 : Stand p l e ({ frames := 0, cells := 1, slots := 41, locals := 0 } : Room) s m #[] below meth c s₁ [] 0 0 := Stand.of_body Bd
  have e0 : s₁.heap = h0 := by rw [← hh, Bd.state]; rfl
  have N0 := Fr.nil n0
  have go0 : ∀ tg_, Steps p.tables e below (s₁.setTop (mkF m 0 #[] [])) tg_ → Steps p.tables e below (s₁.setTop (entryFrame m #[] 0)) tg_ := fun tg_ k => castTop (ef_mgr m ) k
  have KH0 : Keep h0 h0 [] := Keep.refl h0 []
  obtain ⟨T101, h101, k101, X101, e101, E101, A101, st101⟩ := newP X0 hx hZ (hw _ (List.mem_of_getElem? (i := 19) rfl)) e0 (g := (mkF m 2 #[] [(.int (41 : Int32))])) rfl (hb hby dmgr_2) rfl (by decide) (cap := 41) (by decide) (by decide) (by decide) (by decide)
  obtain ⟨ar, g101⟩ : ∃ z, z = h0.size := ⟨_, rfl⟩
  rw [← g101] at A101 st101
  have sz_ar : h0.size ≤ ar := Nat.le_trans KH0.1 (Nat.le_of_eq g101.symm)
  have g_ar : n0 ≤ ar := Nat.le_trans Z0 (Nat.le_of_eq g101.symm)
  have V_ar : Arv Z h101 ar k101 .char (41 : Int32) [(.int (0 : Int32)), (.int (0 : Int32)), (.int (0 : Int32)), (.int (0 : Int32)), (.int (0 : Int32)), (.int (0 : Int32)), (.int (0 : Int32)), (.int (0 : Int32)), (.int (0 : Int32)), (.int (0 : Int32)), (.int (0 : Int32)), (.int (0 : Int32)), (.int (0 : Int32)), (.int (0 : Int32)), (.int (0 : Int32)), (.int (0 : Int32)), (.int (0 : Int32)), (.int (0 : Int32)), (.int (0 : Int32)), (.int (0 : Int32)), (.int (0 : Int32)), (.int (0 : Int32)), (.int (0 : Int32)), (.int (0 : Int32)), (.int (0 : Int32)), (.int (0 : Int32)), (.int (0 : Int32)), (.int (0 : Int32)), (.int (0 : Int32)), (.int (0 : Int32)), (.int (0 : Int32)), (.int (0 : Int32)), (.int (0 : Int32)), (.int (0 : Int32)), (.int (0 : Int32)), (.int (0 : Int32)), (.int (0 : Int32)), (.int (0 : Int32)), (.int (0 : Int32)), (.int (0 : Int32)), (.int (0 : Int32))] (.int (0 : Int32)) := (Arv.new A101 (by decide)).pad (pad_rep [] (.int (0 : Int32)) 41)
  have K101 : Keep h0 h101 [] := (Keep.refl _ []).ext E101
  have KH102 : Keep h0 h101 [] := KH0.trans K101 all0
  have lt_ar : ar < h101.size := V_ar.lt
  obtain ⟨cl103, Ar103, q103, S103, M103, Hh103, G103⟩ := id V_ar
  obtain ⟨T103, h103, X103, e103, W103, st103⟩ := stC X101 hx hZ e101 Ar103 (j := (0 : Int32)) (inb_of S103 ⟨by decide, by decide⟩) (g := (mkF m 8 #[] [(.int (73 : Int32)), (.int (0 : Int32)), (.ref ar), (.ref ar)])) rfl rfl (hb hby dmgr_8)
  have V_ar_103 : Arv Z h103 ar k101 .char (41 : Int32) [(.int (73 : Int32)), (.int (0 : Int32)), (.int (0 : Int32)), (.int (0 : Int32)), (.int (0 : Int32)), (.int (0 : Int32)), (.int (0 : Int32)), (.int (0 : Int32)), (.int (0 : Int32)), (.int (0 : Int32)), (.int (0 : Int32)), (.int (0 : Int32)), (.int (0 : Int32)), (.int (0 : Int32)), (.int (0 : Int32)), (.int (0 : Int32)), (.int (0 : Int32)), (.int (0 : Int32)), (.int (0 : Int32)), (.int (0 : Int32)), (.int (0 : Int32)), (.int (0 : Int32)), (.int (0 : Int32)), (.int (0 : Int32)), (.int (0 : Int32)), (.int (0 : Int32)), (.int (0 : Int32)), (.int (0 : Int32)), (.int (0 : Int32)), (.int (0 : Int32)), (.int (0 : Int32)), (.int (0 : Int32)), (.int (0 : Int32)), (.int (0 : Int32)), (.int (0 : Int32)), (.int (0 : Int32)), (.int (0 : Int32)), (.int (0 : Int32)), (.int (0 : Int32)), (.int (0 : Int32)), (.int (0 : Int32))] (.int (0 : Int32)) := Arv.set Ar103 q103 S103 M103 Hh103 G103 (fits_nar_char _) W103 0 rfl (Nat.le_of_ble_eq_true rfl)
  have K103 : Keep h101 h103 [ar] := Keep.of_wr W103
  have KH104 : Keep h0 h103 [] := KH102.trans K103 (allS (Or.inr sz_ar) all0)
  have N103 := Fr.snoc X103 N0 g_ar
  obtain ⟨cl105, Ar105, q105, S105, M105, Hh105, G105⟩ := id V_ar_103
  obtain ⟨T105, h105, X105, e105, W105, st105⟩ := stC X103 hx hZ e103 Ar105 (j := (1 : Int32)) (inb_of S105 ⟨by decide, by decide⟩) (g := (mkF m 13 #[] [(.int (68 : Int32)), (.int (1 : Int32)), (.ref ar), (.ref ar)])) rfl rfl (hb hby dmgr_13)
  have V_ar_105 : Arv Z h105 ar k101 .char (41 : Int32) [(.int (73 : Int32)), (.int (68 : Int32)), (.int (0 : Int32)), (.int (0 : Int32)), (.int (0 : Int32)), (.int (0 : Int32)), (.int (0 : Int32)), (.int (0 : Int32)), (.int (0 : Int32)), (.int (0 : Int32)), (.int (0 : Int32)), (.int (0 : Int32)), (.int (0 : Int32)), (.int (0 : Int32)), (.int (0 : Int32)), (.int (0 : Int32)), (.int (0 : Int32)), (.int (0 : Int32)), (.int (0 : Int32)), (.int (0 : Int32)), (.int (0 : Int32)), (.int (0 : Int32)), (.int (0 : Int32)), (.int (0 : Int32)), (.int (0 : Int32)), (.int (0 : Int32)), (.int (0 : Int32)), (.int (0 : Int32)), (.int (0 : Int32)), (.int (0 : Int32)), (.int (0 : Int32)), (.int (0 : Int32)), (.int (0 : Int32)), (.int (0 : Int32)), (.int (0 : Int32)), (.int (0 : Int32)), (.int (0 : Int32)), (.int (0 : Int32)), (.int (0 : Int32)), (.int (0 : Int32)), (.int (0 : Int32))] (.int (0 : Int32)) := Arv.set Ar105 q105 S105 M105 Hh105 G105 (fits_nar_char _) W105 1 rfl (Nat.le_of_ble_eq_true rfl)
  have K105 : Keep h103 h105 [ar] := Keep.of_wr W105
  have KH106 : Keep h0 h105 [] := KH104.trans K105 (allS (Or.inr sz_ar) all0)
  have N105 := Fr.snoc X105 N103 g_ar
  obtain ⟨cl107, Ar107, q107, S107, M107, Hh107, G107⟩ := id V_ar_105
  obtain ⟨T107, h107, X107, e107, W107, st107⟩ := stC X105 hx hZ e105 Ar107 (j := (2 : Int32)) (inb_of S107 ⟨by decide, by decide⟩) (g := (mkF m 18 #[] [(.int (76 : Int32)), (.int (2 : Int32)), (.ref ar), (.ref ar)])) rfl rfl (hb hby dmgr_18)
  have V_ar_107 : Arv Z h107 ar k101 .char (41 : Int32) [(.int (73 : Int32)), (.int (68 : Int32)), (.int (76 : Int32)), (.int (0 : Int32)), (.int (0 : Int32)), (.int (0 : Int32)), (.int (0 : Int32)), (.int (0 : Int32)), (.int (0 : Int32)), (.int (0 : Int32)), (.int (0 : Int32)), (.int (0 : Int32)), (.int (0 : Int32)), (.int (0 : Int32)), (.int (0 : Int32)), (.int (0 : Int32)), (.int (0 : Int32)), (.int (0 : Int32)), (.int (0 : Int32)), (.int (0 : Int32)), (.int (0 : Int32)), (.int (0 : Int32)), (.int (0 : Int32)), (.int (0 : Int32)), (.int (0 : Int32)), (.int (0 : Int32)), (.int (0 : Int32)), (.int (0 : Int32)), (.int (0 : Int32)), (.int (0 : Int32)), (.int (0 : Int32)), (.int (0 : Int32)), (.int (0 : Int32)), (.int (0 : Int32)), (.int (0 : Int32)), (.int (0 : Int32)), (.int (0 : Int32)), (.int (0 : Int32)), (.int (0 : Int32)), (.int (0 : Int32)), (.int (0 : Int32))] (.int (0 : Int32)) := Arv.set Ar107 q107 S107 M107 Hh107 G107 (fits_nar_char _) W107 2 rfl (Nat.le_of_ble_eq_true rfl)
  have K107 : Keep h105 h107 [ar] := Keep.of_wr W107
  have KH108 : Keep h0 h107 [] := KH106.trans K107 (allS (Or.inr sz_ar) all0)
  have N107 := Fr.snoc X107 N105 g_ar
  obtain ⟨cl109, Ar109, q109, S109, M109, Hh109, G109⟩ := id V_ar_107
  obtain ⟨T109, h109, X109, e109, W109, st109⟩ := stC X107 hx hZ e107 Ar109 (j := (3 : Int32)) (inb_of S109 ⟨by decide, by decide⟩) (g := (mkF m 23 #[] [(.int (58 : Int32)), (.int (3 : Int32)), (.ref ar), (.ref ar)])) rfl rfl (hb hby dmgr_23)
  have V_ar_109 : Arv Z h109 ar k101 .char (41 : Int32) [(.int (73 : Int32)), (.int (68 : Int32)), (.int (76 : Int32)), (.int (58 : Int32)), (.int (0 : Int32)), (.int (0 : Int32)), (.int (0 : Int32)), (.int (0 : Int32)), (.int (0 : Int32)), (.int (0 : Int32)), (.int (0 : Int32)), (.int (0 : Int32)), (.int (0 : Int32)), (.int (0 : Int32)), (.int (0 : Int32)), (.int (0 : Int32)), (.int (0 : Int32)), (.int (0 : Int32)), (.int (0 : Int32)), (.int (0 : Int32)), (.int (0 : Int32)), (.int (0 : Int32)), (.int (0 : Int32)), (.int (0 : Int32)), (.int (0 : Int32)), (.int (0 : Int32)), (.int (0 : Int32)), (.int (0 : Int32)), (.int (0 : Int32)), (.int (0 : Int32)), (.int (0 : Int32)), (.int (0 : Int32)), (.int (0 : Int32)), (.int (0 : Int32)), (.int (0 : Int32)), (.int (0 : Int32)), (.int (0 : Int32)), (.int (0 : Int32)), (.int (0 : Int32)), (.int (0 : Int32)), (.int (0 : Int32))] (.int (0 : Int32)) := Arv.set Ar109 q109 S109 M109 Hh109 G109 (fits_nar_char _) W109 3 rfl (Nat.le_of_ble_eq_true rfl)
  have K109 : Keep h107 h109 [ar] := Keep.of_wr W109
  have KH110 : Keep h0 h109 [] := KH108.trans K109 (allS (Or.inr sz_ar) all0)
  have N109 := Fr.snoc X109 N107 g_ar
  obtain ⟨cl111, Ar111, q111, S111, M111, Hh111, G111⟩ := id V_ar_109
  obtain ⟨T111, h111, X111, e111, W111, st111⟩ := stC X109 hx hZ e109 Ar111 (j := (4 : Int32)) (inb_of S111 ⟨by decide, by decide⟩) (g := (mkF m 28 #[] [(.int (111 : Int32)), (.int (4 : Int32)), (.ref ar), (.ref ar)])) rfl rfl (hb hby dmgr_28)
  have V_ar_111 : Arv Z h111 ar k101 .char (41 : Int32) [(.int (73 : Int32)), (.int (68 : Int32)), (.int (76 : Int32)), (.int (58 : Int32)), (.int (111 : Int32)), (.int (0 : Int32)), (.int (0 : Int32)), (.int (0 : Int32)), (.int (0 : Int32)), (.int (0 : Int32)), (.int (0 : Int32)), (.int (0 : Int32)), (.int (0 : Int32)), (.int (0 : Int32)), (.int (0 : Int32)), (.int (0 : Int32)), (.int (0 : Int32)), (.int (0 : Int32)), (.int (0 : Int32)), (.int (0 : Int32)), (.int (0 : Int32)), (.int (0 : Int32)), (.int (0 : Int32)), (.int (0 : Int32)), (.int (0 : Int32)), (.int (0 : Int32)), (.int (0 : Int32)), (.int (0 : Int32)), (.int (0 : Int32)), (.int (0 : Int32)), (.int (0 : Int32)), (.int (0 : Int32)), (.int (0 : Int32)), (.int (0 : Int32)), (.int (0 : Int32)), (.int (0 : Int32)), (.int (0 : Int32)), (.int (0 : Int32)), (.int (0 : Int32)), (.int (0 : Int32)), (.int (0 : Int32))] (.int (0 : Int32)) := Arv.set Ar111 q111 S111 M111 Hh111 G111 (fits_nar_char _) W111 4 rfl (Nat.le_of_ble_eq_true rfl)
  have K111 : Keep h109 h111 [ar] := Keep.of_wr W111
  have KH112 : Keep h0 h111 [] := KH110.trans K111 (allS (Or.inr sz_ar) all0)
  have N111 := Fr.snoc X111 N109 g_ar
  obtain ⟨cl113, Ar113, q113, S113, M113, Hh113, G113⟩ := id V_ar_111
  obtain ⟨T113, h113, X113, e113, W113, st113⟩ := stC X111 hx hZ e111 Ar113 (j := (5 : Int32)) (inb_of S113 ⟨by decide, by decide⟩) (g := (mkF m 33 #[] [(.int (109 : Int32)), (.int (5 : Int32)), (.ref ar), (.ref ar)])) rfl rfl (hb hby dmgr_33)
  have V_ar_113 : Arv Z h113 ar k101 .char (41 : Int32) [(.int (73 : Int32)), (.int (68 : Int32)), (.int (76 : Int32)), (.int (58 : Int32)), (.int (111 : Int32)), (.int (109 : Int32)), (.int (0 : Int32)), (.int (0 : Int32)), (.int (0 : Int32)), (.int (0 : Int32)), (.int (0 : Int32)), (.int (0 : Int32)), (.int (0 : Int32)), (.int (0 : Int32)), (.int (0 : Int32)), (.int (0 : Int32)), (.int (0 : Int32)), (.int (0 : Int32)), (.int (0 : Int32)), (.int (0 : Int32)), (.int (0 : Int32)), (.int (0 : Int32)), (.int (0 : Int32)), (.int (0 : Int32)), (.int (0 : Int32)), (.int (0 : Int32)), (.int (0 : Int32)), (.int (0 : Int32)), (.int (0 : Int32)), (.int (0 : Int32)), (.int (0 : Int32)), (.int (0 : Int32)), (.int (0 : Int32)), (.int (0 : Int32)), (.int (0 : Int32)), (.int (0 : Int32)), (.int (0 : Int32)), (.int (0 : Int32)), (.int (0 : Int32)), (.int (0 : Int32)), (.int (0 : Int32))] (.int (0 : Int32)) := Arv.set Ar113 q113 S113 M113 Hh113 G113 (fits_nar_char _) W113 5 rfl (Nat.le_of_ble_eq_true rfl)
  have K113 : Keep h111 h113 [ar] := Keep.of_wr W113
  have KH114 : Keep h0 h113 [] := KH112.trans K113 (allS (Or.inr sz_ar) all0)
  have N113 := Fr.snoc X113 N111 g_ar
  obtain ⟨cl115, Ar115, q115, S115, M115, Hh115, G115⟩ := id V_ar_113
  obtain ⟨T115, h115, X115, e115, W115, st115⟩ := stC X113 hx hZ e113 Ar115 (j := (6 : Int32)) (inb_of S115 ⟨by decide, by decide⟩) (g := (mkF m 39 #[] [(.int (103 : Int32)), (.int (6 : Int32)), (.ref ar), (.ref ar)])) rfl rfl (hb hby dmgr_39)
  have V_ar_115 : Arv Z h115 ar k101 .char (41 : Int32) [(.int (73 : Int32)), (.int (68 : Int32)), (.int (76 : Int32)), (.int (58 : Int32)), (.int (111 : Int32)), (.int (109 : Int32)), (.int (103 : Int32)), (.int (0 : Int32)), (.int (0 : Int32)), (.int (0 : Int32)), (.int (0 : Int32)), (.int (0 : Int32)), (.int (0 : Int32)), (.int (0 : Int32)), (.int (0 : Int32)), (.int (0 : Int32)), (.int (0 : Int32)), (.int (0 : Int32)), (.int (0 : Int32)), (.int (0 : Int32)), (.int (0 : Int32)), (.int (0 : Int32)), (.int (0 : Int32)), (.int (0 : Int32)), (.int (0 : Int32)), (.int (0 : Int32)), (.int (0 : Int32)), (.int (0 : Int32)), (.int (0 : Int32)), (.int (0 : Int32)), (.int (0 : Int32)), (.int (0 : Int32)), (.int (0 : Int32)), (.int (0 : Int32)), (.int (0 : Int32)), (.int (0 : Int32)), (.int (0 : Int32)), (.int (0 : Int32)), (.int (0 : Int32)), (.int (0 : Int32)), (.int (0 : Int32))] (.int (0 : Int32)) := Arv.set Ar115 q115 S115 M115 Hh115 G115 (fits_nar_char _) W115 6 rfl (Nat.le_of_ble_eq_true rfl)
  have K115 : Keep h113 h115 [ar] := Keep.of_wr W115
  have KH116 : Keep h0 h115 [] := KH114.trans K115 (allS (Or.inr sz_ar) all0)
  have N115 := Fr.snoc X115 N113 g_ar
  obtain ⟨cl117, Ar117, q117, S117, M117, Hh117, G117⟩ := id V_ar_115
  obtain ⟨T117, h117, X117, e117, W117, st117⟩ := stC X115 hx hZ e115 Ar117 (j := (7 : Int32)) (inb_of S117 ⟨by decide, by decide⟩) (g := (mkF m 45 #[] [(.int (46 : Int32)), (.int (7 : Int32)), (.ref ar), (.ref ar)])) rfl rfl (hb hby dmgr_45)
  have V_ar_117 : Arv Z h117 ar k101 .char (41 : Int32) [(.int (73 : Int32)), (.int (68 : Int32)), (.int (76 : Int32)), (.int (58 : Int32)), (.int (111 : Int32)), (.int (109 : Int32)), (.int (103 : Int32)), (.int (46 : Int32)), (.int (0 : Int32)), (.int (0 : Int32)), (.int (0 : Int32)), (.int (0 : Int32)), (.int (0 : Int32)), (.int (0 : Int32)), (.int (0 : Int32)), (.int (0 : Int32)), (.int (0 : Int32)), (.int (0 : Int32)), (.int (0 : Int32)), (.int (0 : Int32)), (.int (0 : Int32)), (.int (0 : Int32)), (.int (0 : Int32)), (.int (0 : Int32)), (.int (0 : Int32)), (.int (0 : Int32)), (.int (0 : Int32)), (.int (0 : Int32)), (.int (0 : Int32)), (.int (0 : Int32)), (.int (0 : Int32)), (.int (0 : Int32)), (.int (0 : Int32)), (.int (0 : Int32)), (.int (0 : Int32)), (.int (0 : Int32)), (.int (0 : Int32)), (.int (0 : Int32)), (.int (0 : Int32)), (.int (0 : Int32)), (.int (0 : Int32))] (.int (0 : Int32)) := Arv.set Ar117 q117 S117 M117 Hh117 G117 (fits_nar_char _) W117 7 rfl (Nat.le_of_ble_eq_true rfl)
  have K117 : Keep h115 h117 [ar] := Keep.of_wr W117
  have KH118 : Keep h0 h117 [] := KH116.trans K117 (allS (Or.inr sz_ar) all0)
  have N117 := Fr.snoc X117 N115 g_ar
  obtain ⟨cl119, Ar119, q119, S119, M119, Hh119, G119⟩ := id V_ar_117
  obtain ⟨T119, h119, X119, e119, W119, st119⟩ := stC X117 hx hZ e117 Ar119 (j := (8 : Int32)) (inb_of S119 ⟨by decide, by decide⟩) (g := (mkF m 51 #[] [(.int (111 : Int32)), (.int (8 : Int32)), (.ref ar), (.ref ar)])) rfl rfl (hb hby dmgr_51)
  have V_ar_119 : Arv Z h119 ar k101 .char (41 : Int32) [(.int (73 : Int32)), (.int (68 : Int32)), (.int (76 : Int32)), (.int (58 : Int32)), (.int (111 : Int32)), (.int (109 : Int32)), (.int (103 : Int32)), (.int (46 : Int32)), (.int (111 : Int32)), (.int (0 : Int32)), (.int (0 : Int32)), (.int (0 : Int32)), (.int (0 : Int32)), (.int (0 : Int32)), (.int (0 : Int32)), (.int (0 : Int32)), (.int (0 : Int32)), (.int (0 : Int32)), (.int (0 : Int32)), (.int (0 : Int32)), (.int (0 : Int32)), (.int (0 : Int32)), (.int (0 : Int32)), (.int (0 : Int32)), (.int (0 : Int32)), (.int (0 : Int32)), (.int (0 : Int32)), (.int (0 : Int32)), (.int (0 : Int32)), (.int (0 : Int32)), (.int (0 : Int32)), (.int (0 : Int32)), (.int (0 : Int32)), (.int (0 : Int32)), (.int (0 : Int32)), (.int (0 : Int32)), (.int (0 : Int32)), (.int (0 : Int32)), (.int (0 : Int32)), (.int (0 : Int32)), (.int (0 : Int32))] (.int (0 : Int32)) := Arv.set Ar119 q119 S119 M119 Hh119 G119 (fits_nar_char _) W119 8 rfl (Nat.le_of_ble_eq_true rfl)
  have K119 : Keep h117 h119 [ar] := Keep.of_wr W119
  have KH120 : Keep h0 h119 [] := KH118.trans K119 (allS (Or.inr sz_ar) all0)
  have N119 := Fr.snoc X119 N117 g_ar
  obtain ⟨cl121, Ar121, q121, S121, M121, Hh121, G121⟩ := id V_ar_119
  obtain ⟨T121, h121, X121, e121, W121, st121⟩ := stC X119 hx hZ e119 Ar121 (j := (9 : Int32)) (inb_of S121 ⟨by decide, by decide⟩) (g := (mkF m 57 #[] [(.int (114 : Int32)), (.int (9 : Int32)), (.ref ar), (.ref ar)])) rfl rfl (hb hby dmgr_57)
  have V_ar_121 : Arv Z h121 ar k101 .char (41 : Int32) [(.int (73 : Int32)), (.int (68 : Int32)), (.int (76 : Int32)), (.int (58 : Int32)), (.int (111 : Int32)), (.int (109 : Int32)), (.int (103 : Int32)), (.int (46 : Int32)), (.int (111 : Int32)), (.int (114 : Int32)), (.int (0 : Int32)), (.int (0 : Int32)), (.int (0 : Int32)), (.int (0 : Int32)), (.int (0 : Int32)), (.int (0 : Int32)), (.int (0 : Int32)), (.int (0 : Int32)), (.int (0 : Int32)), (.int (0 : Int32)), (.int (0 : Int32)), (.int (0 : Int32)), (.int (0 : Int32)), (.int (0 : Int32)), (.int (0 : Int32)), (.int (0 : Int32)), (.int (0 : Int32)), (.int (0 : Int32)), (.int (0 : Int32)), (.int (0 : Int32)), (.int (0 : Int32)), (.int (0 : Int32)), (.int (0 : Int32)), (.int (0 : Int32)), (.int (0 : Int32)), (.int (0 : Int32)), (.int (0 : Int32)), (.int (0 : Int32)), (.int (0 : Int32)), (.int (0 : Int32)), (.int (0 : Int32))] (.int (0 : Int32)) := Arv.set Ar121 q121 S121 M121 Hh121 G121 (fits_nar_char _) W121 9 rfl (Nat.le_of_ble_eq_true rfl)
  have K121 : Keep h119 h121 [ar] := Keep.of_wr W121
  have KH122 : Keep h0 h121 [] := KH120.trans K121 (allS (Or.inr sz_ar) all0)
  have N121 := Fr.snoc X121 N119 g_ar
  obtain ⟨cl123, Ar123, q123, S123, M123, Hh123, G123⟩ := id V_ar_121
  obtain ⟨T123, h123, X123, e123, W123, st123⟩ := stC X121 hx hZ e121 Ar123 (j := (10 : Int32)) (inb_of S123 ⟨by decide, by decide⟩) (g := (mkF m 63 #[] [(.int (103 : Int32)), (.int (10 : Int32)), (.ref ar), (.ref ar)])) rfl rfl (hb hby dmgr_63)
  have V_ar_123 : Arv Z h123 ar k101 .char (41 : Int32) [(.int (73 : Int32)), (.int (68 : Int32)), (.int (76 : Int32)), (.int (58 : Int32)), (.int (111 : Int32)), (.int (109 : Int32)), (.int (103 : Int32)), (.int (46 : Int32)), (.int (111 : Int32)), (.int (114 : Int32)), (.int (103 : Int32)), (.int (0 : Int32)), (.int (0 : Int32)), (.int (0 : Int32)), (.int (0 : Int32)), (.int (0 : Int32)), (.int (0 : Int32)), (.int (0 : Int32)), (.int (0 : Int32)), (.int (0 : Int32)), (.int (0 : Int32)), (.int (0 : Int32)), (.int (0 : Int32)), (.int (0 : Int32)), (.int (0 : Int32)), (.int (0 : Int32)), (.int (0 : Int32)), (.int (0 : Int32)), (.int (0 : Int32)), (.int (0 : Int32)), (.int (0 : Int32)), (.int (0 : Int32)), (.int (0 : Int32)), (.int (0 : Int32)), (.int (0 : Int32)), (.int (0 : Int32)), (.int (0 : Int32)), (.int (0 : Int32)), (.int (0 : Int32)), (.int (0 : Int32)), (.int (0 : Int32))] (.int (0 : Int32)) := Arv.set Ar123 q123 S123 M123 Hh123 G123 (fits_nar_char _) W123 10 rfl (Nat.le_of_ble_eq_true rfl)
  have K123 : Keep h121 h123 [ar] := Keep.of_wr W123
  have KH124 : Keep h0 h123 [] := KH122.trans K123 (allS (Or.inr sz_ar) all0)
  have N123 := Fr.snoc X123 N121 g_ar
  obtain ⟨cl125, Ar125, q125, S125, M125, Hh125, G125⟩ := id V_ar_123
  obtain ⟨T125, h125, X125, e125, W125, st125⟩ := stC X123 hx hZ e123 Ar125 (j := (11 : Int32)) (inb_of S125 ⟨by decide, by decide⟩) (g := (mkF m 69 #[] [(.int (47 : Int32)), (.int (11 : Int32)), (.ref ar), (.ref ar)])) rfl rfl (hb hby dmgr_69)
  have V_ar_125 : Arv Z h125 ar k101 .char (41 : Int32) [(.int (73 : Int32)), (.int (68 : Int32)), (.int (76 : Int32)), (.int (58 : Int32)), (.int (111 : Int32)), (.int (109 : Int32)), (.int (103 : Int32)), (.int (46 : Int32)), (.int (111 : Int32)), (.int (114 : Int32)), (.int (103 : Int32)), (.int (47 : Int32)), (.int (0 : Int32)), (.int (0 : Int32)), (.int (0 : Int32)), (.int (0 : Int32)), (.int (0 : Int32)), (.int (0 : Int32)), (.int (0 : Int32)), (.int (0 : Int32)), (.int (0 : Int32)), (.int (0 : Int32)), (.int (0 : Int32)), (.int (0 : Int32)), (.int (0 : Int32)), (.int (0 : Int32)), (.int (0 : Int32)), (.int (0 : Int32)), (.int (0 : Int32)), (.int (0 : Int32)), (.int (0 : Int32)), (.int (0 : Int32)), (.int (0 : Int32)), (.int (0 : Int32)), (.int (0 : Int32)), (.int (0 : Int32)), (.int (0 : Int32)), (.int (0 : Int32)), (.int (0 : Int32)), (.int (0 : Int32)), (.int (0 : Int32))] (.int (0 : Int32)) := Arv.set Ar125 q125 S125 M125 Hh125 G125 (fits_nar_char _) W125 11 rfl (Nat.le_of_ble_eq_true rfl)
  have K125 : Keep h123 h125 [ar] := Keep.of_wr W125
  have KH126 : Keep h0 h125 [] := KH124.trans K125 (allS (Or.inr sz_ar) all0)
  have N125 := Fr.snoc X125 N123 g_ar
  obtain ⟨cl127, Ar127, q127, S127, M127, Hh127, G127⟩ := id V_ar_125
  obtain ⟨T127, h127, X127, e127, W127, st127⟩ := stC X125 hx hZ e125 Ar127 (j := (12 : Int32)) (inb_of S127 ⟨by decide, by decide⟩) (g := (mkF m 75 #[] [(.int (80 : Int32)), (.int (12 : Int32)), (.ref ar), (.ref ar)])) rfl rfl (hb hby dmgr_75)
  have V_ar_127 : Arv Z h127 ar k101 .char (41 : Int32) [(.int (73 : Int32)), (.int (68 : Int32)), (.int (76 : Int32)), (.int (58 : Int32)), (.int (111 : Int32)), (.int (109 : Int32)), (.int (103 : Int32)), (.int (46 : Int32)), (.int (111 : Int32)), (.int (114 : Int32)), (.int (103 : Int32)), (.int (47 : Int32)), (.int (80 : Int32)), (.int (0 : Int32)), (.int (0 : Int32)), (.int (0 : Int32)), (.int (0 : Int32)), (.int (0 : Int32)), (.int (0 : Int32)), (.int (0 : Int32)), (.int (0 : Int32)), (.int (0 : Int32)), (.int (0 : Int32)), (.int (0 : Int32)), (.int (0 : Int32)), (.int (0 : Int32)), (.int (0 : Int32)), (.int (0 : Int32)), (.int (0 : Int32)), (.int (0 : Int32)), (.int (0 : Int32)), (.int (0 : Int32)), (.int (0 : Int32)), (.int (0 : Int32)), (.int (0 : Int32)), (.int (0 : Int32)), (.int (0 : Int32)), (.int (0 : Int32)), (.int (0 : Int32)), (.int (0 : Int32)), (.int (0 : Int32))] (.int (0 : Int32)) := Arv.set Ar127 q127 S127 M127 Hh127 G127 (fits_nar_char _) W127 12 rfl (Nat.le_of_ble_eq_true rfl)
  have K127 : Keep h125 h127 [ar] := Keep.of_wr W127
  have KH128 : Keep h0 h127 [] := KH126.trans K127 (allS (Or.inr sz_ar) all0)
  have N127 := Fr.snoc X127 N125 g_ar
  obtain ⟨cl129, Ar129, q129, S129, M129, Hh129, G129⟩ := id V_ar_127
  obtain ⟨T129, h129, X129, e129, W129, st129⟩ := stC X127 hx hZ e127 Ar129 (j := (13 : Int32)) (inb_of S129 ⟨by decide, by decide⟩) (g := (mkF m 81 #[] [(.int (111 : Int32)), (.int (13 : Int32)), (.ref ar), (.ref ar)])) rfl rfl (hb hby dmgr_81)
  have V_ar_129 : Arv Z h129 ar k101 .char (41 : Int32) [(.int (73 : Int32)), (.int (68 : Int32)), (.int (76 : Int32)), (.int (58 : Int32)), (.int (111 : Int32)), (.int (109 : Int32)), (.int (103 : Int32)), (.int (46 : Int32)), (.int (111 : Int32)), (.int (114 : Int32)), (.int (103 : Int32)), (.int (47 : Int32)), (.int (80 : Int32)), (.int (111 : Int32)), (.int (0 : Int32)), (.int (0 : Int32)), (.int (0 : Int32)), (.int (0 : Int32)), (.int (0 : Int32)), (.int (0 : Int32)), (.int (0 : Int32)), (.int (0 : Int32)), (.int (0 : Int32)), (.int (0 : Int32)), (.int (0 : Int32)), (.int (0 : Int32)), (.int (0 : Int32)), (.int (0 : Int32)), (.int (0 : Int32)), (.int (0 : Int32)), (.int (0 : Int32)), (.int (0 : Int32)), (.int (0 : Int32)), (.int (0 : Int32)), (.int (0 : Int32)), (.int (0 : Int32)), (.int (0 : Int32)), (.int (0 : Int32)), (.int (0 : Int32)), (.int (0 : Int32)), (.int (0 : Int32))] (.int (0 : Int32)) := Arv.set Ar129 q129 S129 M129 Hh129 G129 (fits_nar_char _) W129 13 rfl (Nat.le_of_ble_eq_true rfl)
  have K129 : Keep h127 h129 [ar] := Keep.of_wr W129
  have KH130 : Keep h0 h129 [] := KH128.trans K129 (allS (Or.inr sz_ar) all0)
  have N129 := Fr.snoc X129 N127 g_ar
  obtain ⟨cl131, Ar131, q131, S131, M131, Hh131, G131⟩ := id V_ar_129
  obtain ⟨T131, h131, X131, e131, W131, st131⟩ := stC X129 hx hZ e129 Ar131 (j := (14 : Int32)) (inb_of S131 ⟨by decide, by decide⟩) (g := (mkF m 87 #[] [(.int (114 : Int32)), (.int (14 : Int32)), (.ref ar), (.ref ar)])) rfl rfl (hb hby dmgr_87)
  have V_ar_131 : Arv Z h131 ar k101 .char (41 : Int32) [(.int (73 : Int32)), (.int (68 : Int32)), (.int (76 : Int32)), (.int (58 : Int32)), (.int (111 : Int32)), (.int (109 : Int32)), (.int (103 : Int32)), (.int (46 : Int32)), (.int (111 : Int32)), (.int (114 : Int32)), (.int (103 : Int32)), (.int (47 : Int32)), (.int (80 : Int32)), (.int (111 : Int32)), (.int (114 : Int32)), (.int (0 : Int32)), (.int (0 : Int32)), (.int (0 : Int32)), (.int (0 : Int32)), (.int (0 : Int32)), (.int (0 : Int32)), (.int (0 : Int32)), (.int (0 : Int32)), (.int (0 : Int32)), (.int (0 : Int32)), (.int (0 : Int32)), (.int (0 : Int32)), (.int (0 : Int32)), (.int (0 : Int32)), (.int (0 : Int32)), (.int (0 : Int32)), (.int (0 : Int32)), (.int (0 : Int32)), (.int (0 : Int32)), (.int (0 : Int32)), (.int (0 : Int32)), (.int (0 : Int32)), (.int (0 : Int32)), (.int (0 : Int32)), (.int (0 : Int32)), (.int (0 : Int32))] (.int (0 : Int32)) := Arv.set Ar131 q131 S131 M131 Hh131 G131 (fits_nar_char _) W131 14 rfl (Nat.le_of_ble_eq_true rfl)
  have K131 : Keep h129 h131 [ar] := Keep.of_wr W131
  have KH132 : Keep h0 h131 [] := KH130.trans K131 (allS (Or.inr sz_ar) all0)
  have N131 := Fr.snoc X131 N129 g_ar
  obtain ⟨cl133, Ar133, q133, S133, M133, Hh133, G133⟩ := id V_ar_131
  obtain ⟨T133, h133, X133, e133, W133, st133⟩ := stC X131 hx hZ e131 Ar133 (j := (15 : Int32)) (inb_of S133 ⟨by decide, by decide⟩) (g := (mkF m 93 #[] [(.int (116 : Int32)), (.int (15 : Int32)), (.ref ar), (.ref ar)])) rfl rfl (hb hby dmgr_93)
  have V_ar_133 : Arv Z h133 ar k101 .char (41 : Int32) [(.int (73 : Int32)), (.int (68 : Int32)), (.int (76 : Int32)), (.int (58 : Int32)), (.int (111 : Int32)), (.int (109 : Int32)), (.int (103 : Int32)), (.int (46 : Int32)), (.int (111 : Int32)), (.int (114 : Int32)), (.int (103 : Int32)), (.int (47 : Int32)), (.int (80 : Int32)), (.int (111 : Int32)), (.int (114 : Int32)), (.int (116 : Int32)), (.int (0 : Int32)), (.int (0 : Int32)), (.int (0 : Int32)), (.int (0 : Int32)), (.int (0 : Int32)), (.int (0 : Int32)), (.int (0 : Int32)), (.int (0 : Int32)), (.int (0 : Int32)), (.int (0 : Int32)), (.int (0 : Int32)), (.int (0 : Int32)), (.int (0 : Int32)), (.int (0 : Int32)), (.int (0 : Int32)), (.int (0 : Int32)), (.int (0 : Int32)), (.int (0 : Int32)), (.int (0 : Int32)), (.int (0 : Int32)), (.int (0 : Int32)), (.int (0 : Int32)), (.int (0 : Int32)), (.int (0 : Int32)), (.int (0 : Int32))] (.int (0 : Int32)) := Arv.set Ar133 q133 S133 M133 Hh133 G133 (fits_nar_char _) W133 15 rfl (Nat.le_of_ble_eq_true rfl)
  have K133 : Keep h131 h133 [ar] := Keep.of_wr W133
  have KH134 : Keep h0 h133 [] := KH132.trans K133 (allS (Or.inr sz_ar) all0)
  have N133 := Fr.snoc X133 N131 g_ar
  obtain ⟨cl135, Ar135, q135, S135, M135, Hh135, G135⟩ := id V_ar_133
  obtain ⟨T135, h135, X135, e135, W135, st135⟩ := stC X133 hx hZ e133 Ar135 (j := (16 : Int32)) (inb_of S135 ⟨by decide, by decide⟩) (g := (mkF m 99 #[] [(.int (97 : Int32)), (.int (16 : Int32)), (.ref ar), (.ref ar)])) rfl rfl (hb hby dmgr_99)
  have V_ar_135 : Arv Z h135 ar k101 .char (41 : Int32) [(.int (73 : Int32)), (.int (68 : Int32)), (.int (76 : Int32)), (.int (58 : Int32)), (.int (111 : Int32)), (.int (109 : Int32)), (.int (103 : Int32)), (.int (46 : Int32)), (.int (111 : Int32)), (.int (114 : Int32)), (.int (103 : Int32)), (.int (47 : Int32)), (.int (80 : Int32)), (.int (111 : Int32)), (.int (114 : Int32)), (.int (116 : Int32)), (.int (97 : Int32)), (.int (0 : Int32)), (.int (0 : Int32)), (.int (0 : Int32)), (.int (0 : Int32)), (.int (0 : Int32)), (.int (0 : Int32)), (.int (0 : Int32)), (.int (0 : Int32)), (.int (0 : Int32)), (.int (0 : Int32)), (.int (0 : Int32)), (.int (0 : Int32)), (.int (0 : Int32)), (.int (0 : Int32)), (.int (0 : Int32)), (.int (0 : Int32)), (.int (0 : Int32)), (.int (0 : Int32)), (.int (0 : Int32)), (.int (0 : Int32)), (.int (0 : Int32)), (.int (0 : Int32)), (.int (0 : Int32)), (.int (0 : Int32))] (.int (0 : Int32)) := Arv.set Ar135 q135 S135 M135 Hh135 G135 (fits_nar_char _) W135 16 rfl (Nat.le_of_ble_eq_true rfl)
  have K135 : Keep h133 h135 [ar] := Keep.of_wr W135
  have KH136 : Keep h0 h135 [] := KH134.trans K135 (allS (Or.inr sz_ar) all0)
  have N135 := Fr.snoc X135 N133 g_ar
  obtain ⟨cl137, Ar137, q137, S137, M137, Hh137, G137⟩ := id V_ar_135
  obtain ⟨T137, h137, X137, e137, W137, st137⟩ := stC X135 hx hZ e135 Ar137 (j := (17 : Int32)) (inb_of S137 ⟨by decide, by decide⟩) (g := (mkF m 105 #[] [(.int (98 : Int32)), (.int (17 : Int32)), (.ref ar), (.ref ar)])) rfl rfl (hb hby dmgr_105)
  have V_ar_137 : Arv Z h137 ar k101 .char (41 : Int32) [(.int (73 : Int32)), (.int (68 : Int32)), (.int (76 : Int32)), (.int (58 : Int32)), (.int (111 : Int32)), (.int (109 : Int32)), (.int (103 : Int32)), (.int (46 : Int32)), (.int (111 : Int32)), (.int (114 : Int32)), (.int (103 : Int32)), (.int (47 : Int32)), (.int (80 : Int32)), (.int (111 : Int32)), (.int (114 : Int32)), (.int (116 : Int32)), (.int (97 : Int32)), (.int (98 : Int32)), (.int (0 : Int32)), (.int (0 : Int32)), (.int (0 : Int32)), (.int (0 : Int32)), (.int (0 : Int32)), (.int (0 : Int32)), (.int (0 : Int32)), (.int (0 : Int32)), (.int (0 : Int32)), (.int (0 : Int32)), (.int (0 : Int32)), (.int (0 : Int32)), (.int (0 : Int32)), (.int (0 : Int32)), (.int (0 : Int32)), (.int (0 : Int32)), (.int (0 : Int32)), (.int (0 : Int32)), (.int (0 : Int32)), (.int (0 : Int32)), (.int (0 : Int32)), (.int (0 : Int32)), (.int (0 : Int32))] (.int (0 : Int32)) := Arv.set Ar137 q137 S137 M137 Hh137 G137 (fits_nar_char _) W137 17 rfl (Nat.le_of_ble_eq_true rfl)
  have K137 : Keep h135 h137 [ar] := Keep.of_wr W137
  have KH138 : Keep h0 h137 [] := KH136.trans K137 (allS (Or.inr sz_ar) all0)
  have N137 := Fr.snoc X137 N135 g_ar
  obtain ⟨cl139, Ar139, q139, S139, M139, Hh139, G139⟩ := id V_ar_137
  obtain ⟨T139, h139, X139, e139, W139, st139⟩ := stC X137 hx hZ e137 Ar139 (j := (18 : Int32)) (inb_of S139 ⟨by decide, by decide⟩) (g := (mkF m 111 #[] [(.int (108 : Int32)), (.int (18 : Int32)), (.ref ar), (.ref ar)])) rfl rfl (hb hby dmgr_111)
  have V_ar_139 : Arv Z h139 ar k101 .char (41 : Int32) [(.int (73 : Int32)), (.int (68 : Int32)), (.int (76 : Int32)), (.int (58 : Int32)), (.int (111 : Int32)), (.int (109 : Int32)), (.int (103 : Int32)), (.int (46 : Int32)), (.int (111 : Int32)), (.int (114 : Int32)), (.int (103 : Int32)), (.int (47 : Int32)), (.int (80 : Int32)), (.int (111 : Int32)), (.int (114 : Int32)), (.int (116 : Int32)), (.int (97 : Int32)), (.int (98 : Int32)), (.int (108 : Int32)), (.int (0 : Int32)), (.int (0 : Int32)), (.int (0 : Int32)), (.int (0 : Int32)), (.int (0 : Int32)), (.int (0 : Int32)), (.int (0 : Int32)), (.int (0 : Int32)), (.int (0 : Int32)), (.int (0 : Int32)), (.int (0 : Int32)), (.int (0 : Int32)), (.int (0 : Int32)), (.int (0 : Int32)), (.int (0 : Int32)), (.int (0 : Int32)), (.int (0 : Int32)), (.int (0 : Int32)), (.int (0 : Int32)), (.int (0 : Int32)), (.int (0 : Int32)), (.int (0 : Int32))] (.int (0 : Int32)) := Arv.set Ar139 q139 S139 M139 Hh139 G139 (fits_nar_char _) W139 18 rfl (Nat.le_of_ble_eq_true rfl)
  have K139 : Keep h137 h139 [ar] := Keep.of_wr W139
  have KH140 : Keep h0 h139 [] := KH138.trans K139 (allS (Or.inr sz_ar) all0)
  have N139 := Fr.snoc X139 N137 g_ar
  obtain ⟨cl141, Ar141, q141, S141, M141, Hh141, G141⟩ := id V_ar_139
  obtain ⟨T141, h141, X141, e141, W141, st141⟩ := stC X139 hx hZ e139 Ar141 (j := (19 : Int32)) (inb_of S141 ⟨by decide, by decide⟩) (g := (mkF m 117 #[] [(.int (101 : Int32)), (.int (19 : Int32)), (.ref ar), (.ref ar)])) rfl rfl (hb hby dmgr_117)
  have V_ar_141 : Arv Z h141 ar k101 .char (41 : Int32) [(.int (73 : Int32)), (.int (68 : Int32)), (.int (76 : Int32)), (.int (58 : Int32)), (.int (111 : Int32)), (.int (109 : Int32)), (.int (103 : Int32)), (.int (46 : Int32)), (.int (111 : Int32)), (.int (114 : Int32)), (.int (103 : Int32)), (.int (47 : Int32)), (.int (80 : Int32)), (.int (111 : Int32)), (.int (114 : Int32)), (.int (116 : Int32)), (.int (97 : Int32)), (.int (98 : Int32)), (.int (108 : Int32)), (.int (101 : Int32)), (.int (0 : Int32)), (.int (0 : Int32)), (.int (0 : Int32)), (.int (0 : Int32)), (.int (0 : Int32)), (.int (0 : Int32)), (.int (0 : Int32)), (.int (0 : Int32)), (.int (0 : Int32)), (.int (0 : Int32)), (.int (0 : Int32)), (.int (0 : Int32)), (.int (0 : Int32)), (.int (0 : Int32)), (.int (0 : Int32)), (.int (0 : Int32)), (.int (0 : Int32)), (.int (0 : Int32)), (.int (0 : Int32)), (.int (0 : Int32)), (.int (0 : Int32))] (.int (0 : Int32)) := Arv.set Ar141 q141 S141 M141 Hh141 G141 (fits_nar_char _) W141 19 rfl (Nat.le_of_ble_eq_true rfl)
  have K141 : Keep h139 h141 [ar] := Keep.of_wr W141
  have KH142 : Keep h0 h141 [] := KH140.trans K141 (allS (Or.inr sz_ar) all0)
  have N141 := Fr.snoc X141 N139 g_ar
  obtain ⟨cl143, Ar143, q143, S143, M143, Hh143, G143⟩ := id V_ar_141
  obtain ⟨T143, h143, X143, e143, W143, st143⟩ := stC X141 hx hZ e141 Ar143 (j := (20 : Int32)) (inb_of S143 ⟨by decide, by decide⟩) (g := (mkF m 123 #[] [(.int (83 : Int32)), (.int (20 : Int32)), (.ref ar), (.ref ar)])) rfl rfl (hb hby dmgr_123)
  have V_ar_143 : Arv Z h143 ar k101 .char (41 : Int32) [(.int (73 : Int32)), (.int (68 : Int32)), (.int (76 : Int32)), (.int (58 : Int32)), (.int (111 : Int32)), (.int (109 : Int32)), (.int (103 : Int32)), (.int (46 : Int32)), (.int (111 : Int32)), (.int (114 : Int32)), (.int (103 : Int32)), (.int (47 : Int32)), (.int (80 : Int32)), (.int (111 : Int32)), (.int (114 : Int32)), (.int (116 : Int32)), (.int (97 : Int32)), (.int (98 : Int32)), (.int (108 : Int32)), (.int (101 : Int32)), (.int (83 : Int32)), (.int (0 : Int32)), (.int (0 : Int32)), (.int (0 : Int32)), (.int (0 : Int32)), (.int (0 : Int32)), (.int (0 : Int32)), (.int (0 : Int32)), (.int (0 : Int32)), (.int (0 : Int32)), (.int (0 : Int32)), (.int (0 : Int32)), (.int (0 : Int32)), (.int (0 : Int32)), (.int (0 : Int32)), (.int (0 : Int32)), (.int (0 : Int32)), (.int (0 : Int32)), (.int (0 : Int32)), (.int (0 : Int32)), (.int (0 : Int32))] (.int (0 : Int32)) := Arv.set Ar143 q143 S143 M143 Hh143 G143 (fits_nar_char _) W143 20 rfl (Nat.le_of_ble_eq_true rfl)
  have K143 : Keep h141 h143 [ar] := Keep.of_wr W143
  have KH144 : Keep h0 h143 [] := KH142.trans K143 (allS (Or.inr sz_ar) all0)
  have N143 := Fr.snoc X143 N141 g_ar
  obtain ⟨cl145, Ar145, q145, S145, M145, Hh145, G145⟩ := id V_ar_143
  obtain ⟨T145, h145, X145, e145, W145, st145⟩ := stC X143 hx hZ e143 Ar145 (j := (21 : Int32)) (inb_of S145 ⟨by decide, by decide⟩) (g := (mkF m 129 #[] [(.int (101 : Int32)), (.int (21 : Int32)), (.ref ar), (.ref ar)])) rfl rfl (hb hby dmgr_129)
  have V_ar_145 : Arv Z h145 ar k101 .char (41 : Int32) [(.int (73 : Int32)), (.int (68 : Int32)), (.int (76 : Int32)), (.int (58 : Int32)), (.int (111 : Int32)), (.int (109 : Int32)), (.int (103 : Int32)), (.int (46 : Int32)), (.int (111 : Int32)), (.int (114 : Int32)), (.int (103 : Int32)), (.int (47 : Int32)), (.int (80 : Int32)), (.int (111 : Int32)), (.int (114 : Int32)), (.int (116 : Int32)), (.int (97 : Int32)), (.int (98 : Int32)), (.int (108 : Int32)), (.int (101 : Int32)), (.int (83 : Int32)), (.int (101 : Int32)), (.int (0 : Int32)), (.int (0 : Int32)), (.int (0 : Int32)), (.int (0 : Int32)), (.int (0 : Int32)), (.int (0 : Int32)), (.int (0 : Int32)), (.int (0 : Int32)), (.int (0 : Int32)), (.int (0 : Int32)), (.int (0 : Int32)), (.int (0 : Int32)), (.int (0 : Int32)), (.int (0 : Int32)), (.int (0 : Int32)), (.int (0 : Int32)), (.int (0 : Int32)), (.int (0 : Int32)), (.int (0 : Int32))] (.int (0 : Int32)) := Arv.set Ar145 q145 S145 M145 Hh145 G145 (fits_nar_char _) W145 21 rfl (Nat.le_of_ble_eq_true rfl)
  have K145 : Keep h143 h145 [ar] := Keep.of_wr W145
  have KH146 : Keep h0 h145 [] := KH144.trans K145 (allS (Or.inr sz_ar) all0)
  have N145 := Fr.snoc X145 N143 g_ar
  obtain ⟨cl147, Ar147, q147, S147, M147, Hh147, G147⟩ := id V_ar_145
  obtain ⟨T147, h147, X147, e147, W147, st147⟩ := stC X145 hx hZ e145 Ar147 (j := (22 : Int32)) (inb_of S147 ⟨by decide, by decide⟩) (g := (mkF m 135 #[] [(.int (114 : Int32)), (.int (22 : Int32)), (.ref ar), (.ref ar)])) rfl rfl (hb hby dmgr_135)
  have V_ar_147 : Arv Z h147 ar k101 .char (41 : Int32) [(.int (73 : Int32)), (.int (68 : Int32)), (.int (76 : Int32)), (.int (58 : Int32)), (.int (111 : Int32)), (.int (109 : Int32)), (.int (103 : Int32)), (.int (46 : Int32)), (.int (111 : Int32)), (.int (114 : Int32)), (.int (103 : Int32)), (.int (47 : Int32)), (.int (80 : Int32)), (.int (111 : Int32)), (.int (114 : Int32)), (.int (116 : Int32)), (.int (97 : Int32)), (.int (98 : Int32)), (.int (108 : Int32)), (.int (101 : Int32)), (.int (83 : Int32)), (.int (101 : Int32)), (.int (114 : Int32)), (.int (0 : Int32)), (.int (0 : Int32)), (.int (0 : Int32)), (.int (0 : Int32)), (.int (0 : Int32)), (.int (0 : Int32)), (.int (0 : Int32)), (.int (0 : Int32)), (.int (0 : Int32)), (.int (0 : Int32)), (.int (0 : Int32)), (.int (0 : Int32)), (.int (0 : Int32)), (.int (0 : Int32)), (.int (0 : Int32)), (.int (0 : Int32)), (.int (0 : Int32)), (.int (0 : Int32))] (.int (0 : Int32)) := Arv.set Ar147 q147 S147 M147 Hh147 G147 (fits_nar_char _) W147 22 rfl (Nat.le_of_ble_eq_true rfl)
  have K147 : Keep h145 h147 [ar] := Keep.of_wr W147
  have KH148 : Keep h0 h147 [] := KH146.trans K147 (allS (Or.inr sz_ar) all0)
  have N147 := Fr.snoc X147 N145 g_ar
  obtain ⟨cl149, Ar149, q149, S149, M149, Hh149, G149⟩ := id V_ar_147
  obtain ⟨T149, h149, X149, e149, W149, st149⟩ := stC X147 hx hZ e147 Ar149 (j := (23 : Int32)) (inb_of S149 ⟨by decide, by decide⟩) (g := (mkF m 141 #[] [(.int (118 : Int32)), (.int (23 : Int32)), (.ref ar), (.ref ar)])) rfl rfl (hb hby dmgr_141)
  have V_ar_149 : Arv Z h149 ar k101 .char (41 : Int32) [(.int (73 : Int32)), (.int (68 : Int32)), (.int (76 : Int32)), (.int (58 : Int32)), (.int (111 : Int32)), (.int (109 : Int32)), (.int (103 : Int32)), (.int (46 : Int32)), (.int (111 : Int32)), (.int (114 : Int32)), (.int (103 : Int32)), (.int (47 : Int32)), (.int (80 : Int32)), (.int (111 : Int32)), (.int (114 : Int32)), (.int (116 : Int32)), (.int (97 : Int32)), (.int (98 : Int32)), (.int (108 : Int32)), (.int (101 : Int32)), (.int (83 : Int32)), (.int (101 : Int32)), (.int (114 : Int32)), (.int (118 : Int32)), (.int (0 : Int32)), (.int (0 : Int32)), (.int (0 : Int32)), (.int (0 : Int32)), (.int (0 : Int32)), (.int (0 : Int32)), (.int (0 : Int32)), (.int (0 : Int32)), (.int (0 : Int32)), (.int (0 : Int32)), (.int (0 : Int32)), (.int (0 : Int32)), (.int (0 : Int32)), (.int (0 : Int32)), (.int (0 : Int32)), (.int (0 : Int32)), (.int (0 : Int32))] (.int (0 : Int32)) := Arv.set Ar149 q149 S149 M149 Hh149 G149 (fits_nar_char _) W149 23 rfl (Nat.le_of_ble_eq_true rfl)
  have K149 : Keep h147 h149 [ar] := Keep.of_wr W149
  have KH150 : Keep h0 h149 [] := KH148.trans K149 (allS (Or.inr sz_ar) all0)
  have N149 := Fr.snoc X149 N147 g_ar
  obtain ⟨cl151, Ar151, q151, S151, M151, Hh151, G151⟩ := id V_ar_149
  obtain ⟨T151, h151, X151, e151, W151, st151⟩ := stC X149 hx hZ e149 Ar151 (j := (24 : Int32)) (inb_of S151 ⟨by decide, by decide⟩) (g := (mkF m 147 #[] [(.int (101 : Int32)), (.int (24 : Int32)), (.ref ar), (.ref ar)])) rfl rfl (hb hby dmgr_147)
  have V_ar_151 : Arv Z h151 ar k101 .char (41 : Int32) [(.int (73 : Int32)), (.int (68 : Int32)), (.int (76 : Int32)), (.int (58 : Int32)), (.int (111 : Int32)), (.int (109 : Int32)), (.int (103 : Int32)), (.int (46 : Int32)), (.int (111 : Int32)), (.int (114 : Int32)), (.int (103 : Int32)), (.int (47 : Int32)), (.int (80 : Int32)), (.int (111 : Int32)), (.int (114 : Int32)), (.int (116 : Int32)), (.int (97 : Int32)), (.int (98 : Int32)), (.int (108 : Int32)), (.int (101 : Int32)), (.int (83 : Int32)), (.int (101 : Int32)), (.int (114 : Int32)), (.int (118 : Int32)), (.int (101 : Int32)), (.int (0 : Int32)), (.int (0 : Int32)), (.int (0 : Int32)), (.int (0 : Int32)), (.int (0 : Int32)), (.int (0 : Int32)), (.int (0 : Int32)), (.int (0 : Int32)), (.int (0 : Int32)), (.int (0 : Int32)), (.int (0 : Int32)), (.int (0 : Int32)), (.int (0 : Int32)), (.int (0 : Int32)), (.int (0 : Int32)), (.int (0 : Int32))] (.int (0 : Int32)) := Arv.set Ar151 q151 S151 M151 Hh151 G151 (fits_nar_char _) W151 24 rfl (Nat.le_of_ble_eq_true rfl)
  have K151 : Keep h149 h151 [ar] := Keep.of_wr W151
  have KH152 : Keep h0 h151 [] := KH150.trans K151 (allS (Or.inr sz_ar) all0)
  have N151 := Fr.snoc X151 N149 g_ar
  obtain ⟨cl153, Ar153, q153, S153, M153, Hh153, G153⟩ := id V_ar_151
  obtain ⟨T153, h153, X153, e153, W153, st153⟩ := stC X151 hx hZ e151 Ar153 (j := (25 : Int32)) (inb_of S153 ⟨by decide, by decide⟩) (g := (mkF m 153 #[] [(.int (114 : Int32)), (.int (25 : Int32)), (.ref ar), (.ref ar)])) rfl rfl (hb hby dmgr_153)
  have V_ar_153 : Arv Z h153 ar k101 .char (41 : Int32) [(.int (73 : Int32)), (.int (68 : Int32)), (.int (76 : Int32)), (.int (58 : Int32)), (.int (111 : Int32)), (.int (109 : Int32)), (.int (103 : Int32)), (.int (46 : Int32)), (.int (111 : Int32)), (.int (114 : Int32)), (.int (103 : Int32)), (.int (47 : Int32)), (.int (80 : Int32)), (.int (111 : Int32)), (.int (114 : Int32)), (.int (116 : Int32)), (.int (97 : Int32)), (.int (98 : Int32)), (.int (108 : Int32)), (.int (101 : Int32)), (.int (83 : Int32)), (.int (101 : Int32)), (.int (114 : Int32)), (.int (118 : Int32)), (.int (101 : Int32)), (.int (114 : Int32)), (.int (0 : Int32)), (.int (0 : Int32)), (.int (0 : Int32)), (.int (0 : Int32)), (.int (0 : Int32)), (.int (0 : Int32)), (.int (0 : Int32)), (.int (0 : Int32)), (.int (0 : Int32)), (.int (0 : Int32)), (.int (0 : Int32)), (.int (0 : Int32)), (.int (0 : Int32)), (.int (0 : Int32)), (.int (0 : Int32))] (.int (0 : Int32)) := Arv.set Ar153 q153 S153 M153 Hh153 G153 (fits_nar_char _) W153 25 rfl (Nat.le_of_ble_eq_true rfl)
  have K153 : Keep h151 h153 [ar] := Keep.of_wr W153
  have KH154 : Keep h0 h153 [] := KH152.trans K153 (allS (Or.inr sz_ar) all0)
  have N153 := Fr.snoc X153 N151 g_ar
  obtain ⟨cl155, Ar155, q155, S155, M155, Hh155, G155⟩ := id V_ar_153
  obtain ⟨T155, h155, X155, e155, W155, st155⟩ := stC X153 hx hZ e153 Ar155 (j := (26 : Int32)) (inb_of S155 ⟨by decide, by decide⟩) (g := (mkF m 159 #[] [(.int (47 : Int32)), (.int (26 : Int32)), (.ref ar), (.ref ar)])) rfl rfl (hb hby dmgr_159)
  have V_ar_155 : Arv Z h155 ar k101 .char (41 : Int32) [(.int (73 : Int32)), (.int (68 : Int32)), (.int (76 : Int32)), (.int (58 : Int32)), (.int (111 : Int32)), (.int (109 : Int32)), (.int (103 : Int32)), (.int (46 : Int32)), (.int (111 : Int32)), (.int (114 : Int32)), (.int (103 : Int32)), (.int (47 : Int32)), (.int (80 : Int32)), (.int (111 : Int32)), (.int (114 : Int32)), (.int (116 : Int32)), (.int (97 : Int32)), (.int (98 : Int32)), (.int (108 : Int32)), (.int (101 : Int32)), (.int (83 : Int32)), (.int (101 : Int32)), (.int (114 : Int32)), (.int (118 : Int32)), (.int (101 : Int32)), (.int (114 : Int32)), (.int (47 : Int32)), (.int (0 : Int32)), (.int (0 : Int32)), (.int (0 : Int32)), (.int (0 : Int32)), (.int (0 : Int32)), (.int (0 : Int32)), (.int (0 : Int32)), (.int (0 : Int32)), (.int (0 : Int32)), (.int (0 : Int32)), (.int (0 : Int32)), (.int (0 : Int32)), (.int (0 : Int32)), (.int (0 : Int32))] (.int (0 : Int32)) := Arv.set Ar155 q155 S155 M155 Hh155 G155 (fits_nar_char _) W155 26 rfl (Nat.le_of_ble_eq_true rfl)
  have K155 : Keep h153 h155 [ar] := Keep.of_wr W155
  have KH156 : Keep h0 h155 [] := KH154.trans K155 (allS (Or.inr sz_ar) all0)
  have N155 := Fr.snoc X155 N153 g_ar
  obtain ⟨cl157, Ar157, q157, S157, M157, Hh157, G157⟩ := id V_ar_155
  obtain ⟨T157, h157, X157, e157, W157, st157⟩ := stC X155 hx hZ e155 Ar157 (j := (27 : Int32)) (inb_of S157 ⟨by decide, by decide⟩) (g := (mkF m 165 #[] [(.int (80 : Int32)), (.int (27 : Int32)), (.ref ar), (.ref ar)])) rfl rfl (hb hby dmgr_165)
  have V_ar_157 : Arv Z h157 ar k101 .char (41 : Int32) [(.int (73 : Int32)), (.int (68 : Int32)), (.int (76 : Int32)), (.int (58 : Int32)), (.int (111 : Int32)), (.int (109 : Int32)), (.int (103 : Int32)), (.int (46 : Int32)), (.int (111 : Int32)), (.int (114 : Int32)), (.int (103 : Int32)), (.int (47 : Int32)), (.int (80 : Int32)), (.int (111 : Int32)), (.int (114 : Int32)), (.int (116 : Int32)), (.int (97 : Int32)), (.int (98 : Int32)), (.int (108 : Int32)), (.int (101 : Int32)), (.int (83 : Int32)), (.int (101 : Int32)), (.int (114 : Int32)), (.int (118 : Int32)), (.int (101 : Int32)), (.int (114 : Int32)), (.int (47 : Int32)), (.int (80 : Int32)), (.int (0 : Int32)), (.int (0 : Int32)), (.int (0 : Int32)), (.int (0 : Int32)), (.int (0 : Int32)), (.int (0 : Int32)), (.int (0 : Int32)), (.int (0 : Int32)), (.int (0 : Int32)), (.int (0 : Int32)), (.int (0 : Int32)), (.int (0 : Int32)), (.int (0 : Int32))] (.int (0 : Int32)) := Arv.set Ar157 q157 S157 M157 Hh157 G157 (fits_nar_char _) W157 27 rfl (Nat.le_of_ble_eq_true rfl)
  have K157 : Keep h155 h157 [ar] := Keep.of_wr W157
  have KH158 : Keep h0 h157 [] := KH156.trans K157 (allS (Or.inr sz_ar) all0)
  have N157 := Fr.snoc X157 N155 g_ar
  obtain ⟨cl159, Ar159, q159, S159, M159, Hh159, G159⟩ := id V_ar_157
  obtain ⟨T159, h159, X159, e159, W159, st159⟩ := stC X157 hx hZ e157 Ar159 (j := (28 : Int32)) (inb_of S159 ⟨by decide, by decide⟩) (g := (mkF m 171 #[] [(.int (79 : Int32)), (.int (28 : Int32)), (.ref ar), (.ref ar)])) rfl rfl (hb hby dmgr_171)
  have V_ar_159 : Arv Z h159 ar k101 .char (41 : Int32) [(.int (73 : Int32)), (.int (68 : Int32)), (.int (76 : Int32)), (.int (58 : Int32)), (.int (111 : Int32)), (.int (109 : Int32)), (.int (103 : Int32)), (.int (46 : Int32)), (.int (111 : Int32)), (.int (114 : Int32)), (.int (103 : Int32)), (.int (47 : Int32)), (.int (80 : Int32)), (.int (111 : Int32)), (.int (114 : Int32)), (.int (116 : Int32)), (.int (97 : Int32)), (.int (98 : Int32)), (.int (108 : Int32)), (.int (101 : Int32)), (.int (83 : Int32)), (.int (101 : Int32)), (.int (114 : Int32)), (.int (118 : Int32)), (.int (101 : Int32)), (.int (114 : Int32)), (.int (47 : Int32)), (.int (80 : Int32)), (.int (79 : Int32)), (.int (0 : Int32)), (.int (0 : Int32)), (.int (0 : Int32)), (.int (0 : Int32)), (.int (0 : Int32)), (.int (0 : Int32)), (.int (0 : Int32)), (.int (0 : Int32)), (.int (0 : Int32)), (.int (0 : Int32)), (.int (0 : Int32)), (.int (0 : Int32))] (.int (0 : Int32)) := Arv.set Ar159 q159 S159 M159 Hh159 G159 (fits_nar_char _) W159 28 rfl (Nat.le_of_ble_eq_true rfl)
  have K159 : Keep h157 h159 [ar] := Keep.of_wr W159
  have KH160 : Keep h0 h159 [] := KH158.trans K159 (allS (Or.inr sz_ar) all0)
  have N159 := Fr.snoc X159 N157 g_ar
  obtain ⟨cl161, Ar161, q161, S161, M161, Hh161, G161⟩ := id V_ar_159
  obtain ⟨T161, h161, X161, e161, W161, st161⟩ := stC X159 hx hZ e159 Ar161 (j := (29 : Int32)) (inb_of S161 ⟨by decide, by decide⟩) (g := (mkF m 177 #[] [(.int (65 : Int32)), (.int (29 : Int32)), (.ref ar), (.ref ar)])) rfl rfl (hb hby dmgr_177)
  have V_ar_161 : Arv Z h161 ar k101 .char (41 : Int32) [(.int (73 : Int32)), (.int (68 : Int32)), (.int (76 : Int32)), (.int (58 : Int32)), (.int (111 : Int32)), (.int (109 : Int32)), (.int (103 : Int32)), (.int (46 : Int32)), (.int (111 : Int32)), (.int (114 : Int32)), (.int (103 : Int32)), (.int (47 : Int32)), (.int (80 : Int32)), (.int (111 : Int32)), (.int (114 : Int32)), (.int (116 : Int32)), (.int (97 : Int32)), (.int (98 : Int32)), (.int (108 : Int32)), (.int (101 : Int32)), (.int (83 : Int32)), (.int (101 : Int32)), (.int (114 : Int32)), (.int (118 : Int32)), (.int (101 : Int32)), (.int (114 : Int32)), (.int (47 : Int32)), (.int (80 : Int32)), (.int (79 : Int32)), (.int (65 : Int32)), (.int (0 : Int32)), (.int (0 : Int32)), (.int (0 : Int32)), (.int (0 : Int32)), (.int (0 : Int32)), (.int (0 : Int32)), (.int (0 : Int32)), (.int (0 : Int32)), (.int (0 : Int32)), (.int (0 : Int32)), (.int (0 : Int32))] (.int (0 : Int32)) := Arv.set Ar161 q161 S161 M161 Hh161 G161 (fits_nar_char _) W161 29 rfl (Nat.le_of_ble_eq_true rfl)
  have K161 : Keep h159 h161 [ar] := Keep.of_wr W161
  have KH162 : Keep h0 h161 [] := KH160.trans K161 (allS (Or.inr sz_ar) all0)
  have N161 := Fr.snoc X161 N159 g_ar
  obtain ⟨cl163, Ar163, q163, S163, M163, Hh163, G163⟩ := id V_ar_161
  obtain ⟨T163, h163, X163, e163, W163, st163⟩ := stC X161 hx hZ e161 Ar163 (j := (30 : Int32)) (inb_of S163 ⟨by decide, by decide⟩) (g := (mkF m 183 #[] [(.int (77 : Int32)), (.int (30 : Int32)), (.ref ar), (.ref ar)])) rfl rfl (hb hby dmgr_183)
  have V_ar_163 : Arv Z h163 ar k101 .char (41 : Int32) [(.int (73 : Int32)), (.int (68 : Int32)), (.int (76 : Int32)), (.int (58 : Int32)), (.int (111 : Int32)), (.int (109 : Int32)), (.int (103 : Int32)), (.int (46 : Int32)), (.int (111 : Int32)), (.int (114 : Int32)), (.int (103 : Int32)), (.int (47 : Int32)), (.int (80 : Int32)), (.int (111 : Int32)), (.int (114 : Int32)), (.int (116 : Int32)), (.int (97 : Int32)), (.int (98 : Int32)), (.int (108 : Int32)), (.int (101 : Int32)), (.int (83 : Int32)), (.int (101 : Int32)), (.int (114 : Int32)), (.int (118 : Int32)), (.int (101 : Int32)), (.int (114 : Int32)), (.int (47 : Int32)), (.int (80 : Int32)), (.int (79 : Int32)), (.int (65 : Int32)), (.int (77 : Int32)), (.int (0 : Int32)), (.int (0 : Int32)), (.int (0 : Int32)), (.int (0 : Int32)), (.int (0 : Int32)), (.int (0 : Int32)), (.int (0 : Int32)), (.int (0 : Int32)), (.int (0 : Int32)), (.int (0 : Int32))] (.int (0 : Int32)) := Arv.set Ar163 q163 S163 M163 Hh163 G163 (fits_nar_char _) W163 30 rfl (Nat.le_of_ble_eq_true rfl)
  have K163 : Keep h161 h163 [ar] := Keep.of_wr W163
  have KH164 : Keep h0 h163 [] := KH162.trans K163 (allS (Or.inr sz_ar) all0)
  have N163 := Fr.snoc X163 N161 g_ar
  obtain ⟨cl165, Ar165, q165, S165, M165, Hh165, G165⟩ := id V_ar_163
  obtain ⟨T165, h165, X165, e165, W165, st165⟩ := stC X163 hx hZ e163 Ar165 (j := (31 : Int32)) (inb_of S165 ⟨by decide, by decide⟩) (g := (mkF m 189 #[] [(.int (97 : Int32)), (.int (31 : Int32)), (.ref ar), (.ref ar)])) rfl rfl (hb hby dmgr_189)
  have V_ar_165 : Arv Z h165 ar k101 .char (41 : Int32) [(.int (73 : Int32)), (.int (68 : Int32)), (.int (76 : Int32)), (.int (58 : Int32)), (.int (111 : Int32)), (.int (109 : Int32)), (.int (103 : Int32)), (.int (46 : Int32)), (.int (111 : Int32)), (.int (114 : Int32)), (.int (103 : Int32)), (.int (47 : Int32)), (.int (80 : Int32)), (.int (111 : Int32)), (.int (114 : Int32)), (.int (116 : Int32)), (.int (97 : Int32)), (.int (98 : Int32)), (.int (108 : Int32)), (.int (101 : Int32)), (.int (83 : Int32)), (.int (101 : Int32)), (.int (114 : Int32)), (.int (118 : Int32)), (.int (101 : Int32)), (.int (114 : Int32)), (.int (47 : Int32)), (.int (80 : Int32)), (.int (79 : Int32)), (.int (65 : Int32)), (.int (77 : Int32)), (.int (97 : Int32)), (.int (0 : Int32)), (.int (0 : Int32)), (.int (0 : Int32)), (.int (0 : Int32)), (.int (0 : Int32)), (.int (0 : Int32)), (.int (0 : Int32)), (.int (0 : Int32)), (.int (0 : Int32))] (.int (0 : Int32)) := Arv.set Ar165 q165 S165 M165 Hh165 G165 (fits_nar_char _) W165 31 rfl (Nat.le_of_ble_eq_true rfl)
  have K165 : Keep h163 h165 [ar] := Keep.of_wr W165
  have KH166 : Keep h0 h165 [] := KH164.trans K165 (allS (Or.inr sz_ar) all0)
  have N165 := Fr.snoc X165 N163 g_ar
  obtain ⟨cl167, Ar167, q167, S167, M167, Hh167, G167⟩ := id V_ar_165
  obtain ⟨T167, h167, X167, e167, W167, st167⟩ := stC X165 hx hZ e165 Ar167 (j := (32 : Int32)) (inb_of S167 ⟨by decide, by decide⟩) (g := (mkF m 195 #[] [(.int (110 : Int32)), (.int (32 : Int32)), (.ref ar), (.ref ar)])) rfl rfl (hb hby dmgr_195)
  have V_ar_167 : Arv Z h167 ar k101 .char (41 : Int32) [(.int (73 : Int32)), (.int (68 : Int32)), (.int (76 : Int32)), (.int (58 : Int32)), (.int (111 : Int32)), (.int (109 : Int32)), (.int (103 : Int32)), (.int (46 : Int32)), (.int (111 : Int32)), (.int (114 : Int32)), (.int (103 : Int32)), (.int (47 : Int32)), (.int (80 : Int32)), (.int (111 : Int32)), (.int (114 : Int32)), (.int (116 : Int32)), (.int (97 : Int32)), (.int (98 : Int32)), (.int (108 : Int32)), (.int (101 : Int32)), (.int (83 : Int32)), (.int (101 : Int32)), (.int (114 : Int32)), (.int (118 : Int32)), (.int (101 : Int32)), (.int (114 : Int32)), (.int (47 : Int32)), (.int (80 : Int32)), (.int (79 : Int32)), (.int (65 : Int32)), (.int (77 : Int32)), (.int (97 : Int32)), (.int (110 : Int32)), (.int (0 : Int32)), (.int (0 : Int32)), (.int (0 : Int32)), (.int (0 : Int32)), (.int (0 : Int32)), (.int (0 : Int32)), (.int (0 : Int32)), (.int (0 : Int32))] (.int (0 : Int32)) := Arv.set Ar167 q167 S167 M167 Hh167 G167 (fits_nar_char _) W167 32 rfl (Nat.le_of_ble_eq_true rfl)
  have K167 : Keep h165 h167 [ar] := Keep.of_wr W167
  have KH168 : Keep h0 h167 [] := KH166.trans K167 (allS (Or.inr sz_ar) all0)
  have N167 := Fr.snoc X167 N165 g_ar
  obtain ⟨cl169, Ar169, q169, S169, M169, Hh169, G169⟩ := id V_ar_167
  obtain ⟨T169, h169, X169, e169, W169, st169⟩ := stC X167 hx hZ e167 Ar169 (j := (33 : Int32)) (inb_of S169 ⟨by decide, by decide⟩) (g := (mkF m 201 #[] [(.int (97 : Int32)), (.int (33 : Int32)), (.ref ar), (.ref ar)])) rfl rfl (hb hby dmgr_201)
  have V_ar_169 : Arv Z h169 ar k101 .char (41 : Int32) [(.int (73 : Int32)), (.int (68 : Int32)), (.int (76 : Int32)), (.int (58 : Int32)), (.int (111 : Int32)), (.int (109 : Int32)), (.int (103 : Int32)), (.int (46 : Int32)), (.int (111 : Int32)), (.int (114 : Int32)), (.int (103 : Int32)), (.int (47 : Int32)), (.int (80 : Int32)), (.int (111 : Int32)), (.int (114 : Int32)), (.int (116 : Int32)), (.int (97 : Int32)), (.int (98 : Int32)), (.int (108 : Int32)), (.int (101 : Int32)), (.int (83 : Int32)), (.int (101 : Int32)), (.int (114 : Int32)), (.int (118 : Int32)), (.int (101 : Int32)), (.int (114 : Int32)), (.int (47 : Int32)), (.int (80 : Int32)), (.int (79 : Int32)), (.int (65 : Int32)), (.int (77 : Int32)), (.int (97 : Int32)), (.int (110 : Int32)), (.int (97 : Int32)), (.int (0 : Int32)), (.int (0 : Int32)), (.int (0 : Int32)), (.int (0 : Int32)), (.int (0 : Int32)), (.int (0 : Int32)), (.int (0 : Int32))] (.int (0 : Int32)) := Arv.set Ar169 q169 S169 M169 Hh169 G169 (fits_nar_char _) W169 33 rfl (Nat.le_of_ble_eq_true rfl)
  have K169 : Keep h167 h169 [ar] := Keep.of_wr W169
  have KH170 : Keep h0 h169 [] := KH168.trans K169 (allS (Or.inr sz_ar) all0)
  have N169 := Fr.snoc X169 N167 g_ar
  obtain ⟨cl171, Ar171, q171, S171, M171, Hh171, G171⟩ := id V_ar_169
  obtain ⟨T171, h171, X171, e171, W171, st171⟩ := stC X169 hx hZ e169 Ar171 (j := (34 : Int32)) (inb_of S171 ⟨by decide, by decide⟩) (g := (mkF m 207 #[] [(.int (103 : Int32)), (.int (34 : Int32)), (.ref ar), (.ref ar)])) rfl rfl (hb hby dmgr_207)
  have V_ar_171 : Arv Z h171 ar k101 .char (41 : Int32) [(.int (73 : Int32)), (.int (68 : Int32)), (.int (76 : Int32)), (.int (58 : Int32)), (.int (111 : Int32)), (.int (109 : Int32)), (.int (103 : Int32)), (.int (46 : Int32)), (.int (111 : Int32)), (.int (114 : Int32)), (.int (103 : Int32)), (.int (47 : Int32)), (.int (80 : Int32)), (.int (111 : Int32)), (.int (114 : Int32)), (.int (116 : Int32)), (.int (97 : Int32)), (.int (98 : Int32)), (.int (108 : Int32)), (.int (101 : Int32)), (.int (83 : Int32)), (.int (101 : Int32)), (.int (114 : Int32)), (.int (118 : Int32)), (.int (101 : Int32)), (.int (114 : Int32)), (.int (47 : Int32)), (.int (80 : Int32)), (.int (79 : Int32)), (.int (65 : Int32)), (.int (77 : Int32)), (.int (97 : Int32)), (.int (110 : Int32)), (.int (97 : Int32)), (.int (103 : Int32)), (.int (0 : Int32)), (.int (0 : Int32)), (.int (0 : Int32)), (.int (0 : Int32)), (.int (0 : Int32)), (.int (0 : Int32))] (.int (0 : Int32)) := Arv.set Ar171 q171 S171 M171 Hh171 G171 (fits_nar_char _) W171 34 rfl (Nat.le_of_ble_eq_true rfl)
  have K171 : Keep h169 h171 [ar] := Keep.of_wr W171
  have KH172 : Keep h0 h171 [] := KH170.trans K171 (allS (Or.inr sz_ar) all0)
  have N171 := Fr.snoc X171 N169 g_ar
  obtain ⟨cl173, Ar173, q173, S173, M173, Hh173, G173⟩ := id V_ar_171
  obtain ⟨T173, h173, X173, e173, W173, st173⟩ := stC X171 hx hZ e171 Ar173 (j := (35 : Int32)) (inb_of S173 ⟨by decide, by decide⟩) (g := (mkF m 213 #[] [(.int (101 : Int32)), (.int (35 : Int32)), (.ref ar), (.ref ar)])) rfl rfl (hb hby dmgr_213)
  have V_ar_173 : Arv Z h173 ar k101 .char (41 : Int32) [(.int (73 : Int32)), (.int (68 : Int32)), (.int (76 : Int32)), (.int (58 : Int32)), (.int (111 : Int32)), (.int (109 : Int32)), (.int (103 : Int32)), (.int (46 : Int32)), (.int (111 : Int32)), (.int (114 : Int32)), (.int (103 : Int32)), (.int (47 : Int32)), (.int (80 : Int32)), (.int (111 : Int32)), (.int (114 : Int32)), (.int (116 : Int32)), (.int (97 : Int32)), (.int (98 : Int32)), (.int (108 : Int32)), (.int (101 : Int32)), (.int (83 : Int32)), (.int (101 : Int32)), (.int (114 : Int32)), (.int (118 : Int32)), (.int (101 : Int32)), (.int (114 : Int32)), (.int (47 : Int32)), (.int (80 : Int32)), (.int (79 : Int32)), (.int (65 : Int32)), (.int (77 : Int32)), (.int (97 : Int32)), (.int (110 : Int32)), (.int (97 : Int32)), (.int (103 : Int32)), (.int (101 : Int32)), (.int (0 : Int32)), (.int (0 : Int32)), (.int (0 : Int32)), (.int (0 : Int32)), (.int (0 : Int32))] (.int (0 : Int32)) := Arv.set Ar173 q173 S173 M173 Hh173 G173 (fits_nar_char _) W173 35 rfl (Nat.le_of_ble_eq_true rfl)
  have K173 : Keep h171 h173 [ar] := Keep.of_wr W173
  have KH174 : Keep h0 h173 [] := KH172.trans K173 (allS (Or.inr sz_ar) all0)
  have N173 := Fr.snoc X173 N171 g_ar
  obtain ⟨cl175, Ar175, q175, S175, M175, Hh175, G175⟩ := id V_ar_173
  obtain ⟨T175, h175, X175, e175, W175, st175⟩ := stC X173 hx hZ e173 Ar175 (j := (36 : Int32)) (inb_of S175 ⟨by decide, by decide⟩) (g := (mkF m 219 #[] [(.int (114 : Int32)), (.int (36 : Int32)), (.ref ar), (.ref ar)])) rfl rfl (hb hby dmgr_219)
  have V_ar_175 : Arv Z h175 ar k101 .char (41 : Int32) [(.int (73 : Int32)), (.int (68 : Int32)), (.int (76 : Int32)), (.int (58 : Int32)), (.int (111 : Int32)), (.int (109 : Int32)), (.int (103 : Int32)), (.int (46 : Int32)), (.int (111 : Int32)), (.int (114 : Int32)), (.int (103 : Int32)), (.int (47 : Int32)), (.int (80 : Int32)), (.int (111 : Int32)), (.int (114 : Int32)), (.int (116 : Int32)), (.int (97 : Int32)), (.int (98 : Int32)), (.int (108 : Int32)), (.int (101 : Int32)), (.int (83 : Int32)), (.int (101 : Int32)), (.int (114 : Int32)), (.int (118 : Int32)), (.int (101 : Int32)), (.int (114 : Int32)), (.int (47 : Int32)), (.int (80 : Int32)), (.int (79 : Int32)), (.int (65 : Int32)), (.int (77 : Int32)), (.int (97 : Int32)), (.int (110 : Int32)), (.int (97 : Int32)), (.int (103 : Int32)), (.int (101 : Int32)), (.int (114 : Int32)), (.int (0 : Int32)), (.int (0 : Int32)), (.int (0 : Int32)), (.int (0 : Int32))] (.int (0 : Int32)) := Arv.set Ar175 q175 S175 M175 Hh175 G175 (fits_nar_char _) W175 36 rfl (Nat.le_of_ble_eq_true rfl)
  have K175 : Keep h173 h175 [ar] := Keep.of_wr W175
  have KH176 : Keep h0 h175 [] := KH174.trans K175 (allS (Or.inr sz_ar) all0)
  have N175 := Fr.snoc X175 N173 g_ar
  obtain ⟨cl177, Ar177, q177, S177, M177, Hh177, G177⟩ := id V_ar_175
  obtain ⟨T177, h177, X177, e177, W177, st177⟩ := stC X175 hx hZ e175 Ar177 (j := (37 : Int32)) (inb_of S177 ⟨by decide, by decide⟩) (g := (mkF m 225 #[] [(.int (58 : Int32)), (.int (37 : Int32)), (.ref ar), (.ref ar)])) rfl rfl (hb hby dmgr_225)
  have V_ar_177 : Arv Z h177 ar k101 .char (41 : Int32) [(.int (73 : Int32)), (.int (68 : Int32)), (.int (76 : Int32)), (.int (58 : Int32)), (.int (111 : Int32)), (.int (109 : Int32)), (.int (103 : Int32)), (.int (46 : Int32)), (.int (111 : Int32)), (.int (114 : Int32)), (.int (103 : Int32)), (.int (47 : Int32)), (.int (80 : Int32)), (.int (111 : Int32)), (.int (114 : Int32)), (.int (116 : Int32)), (.int (97 : Int32)), (.int (98 : Int32)), (.int (108 : Int32)), (.int (101 : Int32)), (.int (83 : Int32)), (.int (101 : Int32)), (.int (114 : Int32)), (.int (118 : Int32)), (.int (101 : Int32)), (.int (114 : Int32)), (.int (47 : Int32)), (.int (80 : Int32)), (.int (79 : Int32)), (.int (65 : Int32)), (.int (77 : Int32)), (.int (97 : Int32)), (.int (110 : Int32)), (.int (97 : Int32)), (.int (103 : Int32)), (.int (101 : Int32)), (.int (114 : Int32)), (.int (58 : Int32)), (.int (0 : Int32)), (.int (0 : Int32)), (.int (0 : Int32))] (.int (0 : Int32)) := Arv.set Ar177 q177 S177 M177 Hh177 G177 (fits_nar_char _) W177 37 rfl (Nat.le_of_ble_eq_true rfl)
  have K177 : Keep h175 h177 [ar] := Keep.of_wr W177
  have KH178 : Keep h0 h177 [] := KH176.trans K177 (allS (Or.inr sz_ar) all0)
  have N177 := Fr.snoc X177 N175 g_ar
  obtain ⟨cl179, Ar179, q179, S179, M179, Hh179, G179⟩ := id V_ar_177
  obtain ⟨T179, h179, X179, e179, W179, st179⟩ := stC X177 hx hZ e177 Ar179 (j := (38 : Int32)) (inb_of S179 ⟨by decide, by decide⟩) (g := (mkF m 231 #[] [(.int (50 : Int32)), (.int (38 : Int32)), (.ref ar), (.ref ar)])) rfl rfl (hb hby dmgr_231)
  have V_ar_179 : Arv Z h179 ar k101 .char (41 : Int32) [(.int (73 : Int32)), (.int (68 : Int32)), (.int (76 : Int32)), (.int (58 : Int32)), (.int (111 : Int32)), (.int (109 : Int32)), (.int (103 : Int32)), (.int (46 : Int32)), (.int (111 : Int32)), (.int (114 : Int32)), (.int (103 : Int32)), (.int (47 : Int32)), (.int (80 : Int32)), (.int (111 : Int32)), (.int (114 : Int32)), (.int (116 : Int32)), (.int (97 : Int32)), (.int (98 : Int32)), (.int (108 : Int32)), (.int (101 : Int32)), (.int (83 : Int32)), (.int (101 : Int32)), (.int (114 : Int32)), (.int (118 : Int32)), (.int (101 : Int32)), (.int (114 : Int32)), (.int (47 : Int32)), (.int (80 : Int32)), (.int (79 : Int32)), (.int (65 : Int32)), (.int (77 : Int32)), (.int (97 : Int32)), (.int (110 : Int32)), (.int (97 : Int32)), (.int (103 : Int32)), (.int (101 : Int32)), (.int (114 : Int32)), (.int (58 : Int32)), (.int (50 : Int32)), (.int (0 : Int32)), (.int (0 : Int32))] (.int (0 : Int32)) := Arv.set Ar179 q179 S179 M179 Hh179 G179 (fits_nar_char _) W179 38 rfl (Nat.le_of_ble_eq_true rfl)
  have K179 : Keep h177 h179 [ar] := Keep.of_wr W179
  have KH180 : Keep h0 h179 [] := KH178.trans K179 (allS (Or.inr sz_ar) all0)
  have N179 := Fr.snoc X179 N177 g_ar
  obtain ⟨cl181, Ar181, q181, S181, M181, Hh181, G181⟩ := id V_ar_179
  obtain ⟨T181, h181, X181, e181, W181, st181⟩ := stC X179 hx hZ e179 Ar181 (j := (39 : Int32)) (inb_of S181 ⟨by decide, by decide⟩) (g := (mkF m 237 #[] [(.int (46 : Int32)), (.int (39 : Int32)), (.ref ar), (.ref ar)])) rfl rfl (hb hby dmgr_237)
  have V_ar_181 : Arv Z h181 ar k101 .char (41 : Int32) [(.int (73 : Int32)), (.int (68 : Int32)), (.int (76 : Int32)), (.int (58 : Int32)), (.int (111 : Int32)), (.int (109 : Int32)), (.int (103 : Int32)), (.int (46 : Int32)), (.int (111 : Int32)), (.int (114 : Int32)), (.int (103 : Int32)), (.int (47 : Int32)), (.int (80 : Int32)), (.int (111 : Int32)), (.int (114 : Int32)), (.int (116 : Int32)), (.int (97 : Int32)), (.int (98 : Int32)), (.int (108 : Int32)), (.int (101 : Int32)), (.int (83 : Int32)), (.int (101 : Int32)), (.int (114 : Int32)), (.int (118 : Int32)), (.int (101 : Int32)), (.int (114 : Int32)), (.int (47 : Int32)), (.int (80 : Int32)), (.int (79 : Int32)), (.int (65 : Int32)), (.int (77 : Int32)), (.int (97 : Int32)), (.int (110 : Int32)), (.int (97 : Int32)), (.int (103 : Int32)), (.int (101 : Int32)), (.int (114 : Int32)), (.int (58 : Int32)), (.int (50 : Int32)), (.int (46 : Int32)), (.int (0 : Int32))] (.int (0 : Int32)) := Arv.set Ar181 q181 S181 M181 Hh181 G181 (fits_nar_char _) W181 39 rfl (Nat.le_of_ble_eq_true rfl)
  have K181 : Keep h179 h181 [ar] := Keep.of_wr W181
  have KH182 : Keep h0 h181 [] := KH180.trans K181 (allS (Or.inr sz_ar) all0)
  have N181 := Fr.snoc X181 N179 g_ar
  obtain ⟨cl183, Ar183, q183, S183, M183, Hh183, G183⟩ := id V_ar_181
  obtain ⟨T183, h183, X183, e183, W183, st183⟩ := stC X181 hx hZ e181 Ar183 (j := (40 : Int32)) (inb_of S183 ⟨by decide, by decide⟩) (g := (mkF m 243 #[] [(.int (51 : Int32)), (.int (40 : Int32)), (.ref ar), (.ref ar)])) rfl rfl (hb hby dmgr_243)
  have V_ar_183 : Arv Z h183 ar k101 .char (41 : Int32) [(.int (73 : Int32)), (.int (68 : Int32)), (.int (76 : Int32)), (.int (58 : Int32)), (.int (111 : Int32)), (.int (109 : Int32)), (.int (103 : Int32)), (.int (46 : Int32)), (.int (111 : Int32)), (.int (114 : Int32)), (.int (103 : Int32)), (.int (47 : Int32)), (.int (80 : Int32)), (.int (111 : Int32)), (.int (114 : Int32)), (.int (116 : Int32)), (.int (97 : Int32)), (.int (98 : Int32)), (.int (108 : Int32)), (.int (101 : Int32)), (.int (83 : Int32)), (.int (101 : Int32)), (.int (114 : Int32)), (.int (118 : Int32)), (.int (101 : Int32)), (.int (114 : Int32)), (.int (47 : Int32)), (.int (80 : Int32)), (.int (79 : Int32)), (.int (65 : Int32)), (.int (77 : Int32)), (.int (97 : Int32)), (.int (110 : Int32)), (.int (97 : Int32)), (.int (103 : Int32)), (.int (101 : Int32)), (.int (114 : Int32)), (.int (58 : Int32)), (.int (50 : Int32)), (.int (46 : Int32)), (.int (51 : Int32))] (.int (0 : Int32)) := Arv.set Ar183 q183 S183 M183 Hh183 G183 (fits_nar_char _) W183 40 rfl (Nat.le_of_ble_eq_true rfl)
  have K183 : Keep h181 h183 [ar] := Keep.of_wr W183
  have KH184 : Keep h0 h183 [] := KH182.trans K183 (allS (Or.inr sz_ar) all0)
  have N183 := Fr.snoc X183 N181 g_ar
  obtain ⟨fs, hr, hrun, hended, hW, hsame⟩ := X183.leave (v := some (.ref ar)) (fun h => by rw [Bd.returns] at h; cases h)
  refine ⟨_, _, go0 _ ?_, hrun, hended, _, _, rfl, ?_, ⟨_, rfl⟩, hW, hsame.mono (by decide) (by decide)⟩
  · show Steps p.tables e below (s₁.setTop (mkF m 0 #[] [])) _
    refine XS.bipush X0.here hx rfl (hb hby dmgr_0) ?_
    show Steps p.tables e below (s₁.setTop (mkF m 2 #[] [(.int (41 : Int32))])) _
    refine st101 _ ?_
    show Steps p.tables e below (T101.setTop (mkF m 4 #[] [(.ref ar)])) _
    refine XS.dup X101.here hx rfl (hb hby dmgr_4) rfl rfl ?_
    show Steps p.tables e below (T101.setTop (mkF m 5 #[] [(.ref ar), (.ref ar)])) _
    refine XS.iconst X101.here hx rfl (hb hby dmgr_5) ?_
    show Steps p.tables e below (T101.setTop (mkF m 6 #[] [(.int (0 : Int32)), (.ref ar), (.ref ar)])) _
    refine XS.bipush X101.here hx rfl (hb hby dmgr_6) ?_
    show Steps p.tables e below (T101.setTop (mkF m 8 #[] [(.int (73 : Int32)), (.int (0 : Int32)), (.ref ar), (.ref ar)])) _
    refine st103 _ ?_
    show Steps p.tables e below (T103.setTop (mkF m 9 #[] [(.ref ar)])) _
    refine XS.dup X103.here hx rfl (hb hby dmgr_9) rfl rfl ?_
    show Steps p.tables e below (T103.setTop (mkF m 10 #[] [(.ref ar), (.ref ar)])) _
    refine XS.iconst X103.here hx rfl (hb hby dmgr_10) ?_
    show Steps p.tables e below (T103.setTop (mkF m 11 #[] [(.int (1 : Int32)), (.ref ar), (.ref ar)])) _
    refine XS.bipush X103.here hx rfl (hb hby dmgr_11) ?_
    show Steps p.tables e below (T103.setTop (mkF m 13 #[] [(.int (68 : Int32)), (.int (1 : Int32)), (.ref ar), (.ref ar)])) _
    refine st105 _ ?_
    show Steps p.tables e below (T105.setTop (mkF m 14 #[] [(.ref ar)])) _
    refine XS.dup X105.here hx rfl (hb hby dmgr_14) rfl rfl ?_
    show Steps p.tables e below (T105.setTop (mkF m 15 #[] [(.ref ar), (.ref ar)])) _
    refine XS.iconst X105.here hx rfl (hb hby dmgr_15) ?_
    show Steps p.tables e below (T105.setTop (mkF m 16 #[] [(.int (2 : Int32)), (.ref ar), (.ref ar)])) _
    refine XS.bipush X105.here hx rfl (hb hby dmgr_16) ?_
    show Steps p.tables e below (T105.setTop (mkF m 18 #[] [(.int (76 : Int32)), (.int (2 : Int32)), (.ref ar), (.ref ar)])) _
    refine st107 _ ?_
    show Steps p.tables e below (T107.setTop (mkF m 19 #[] [(.ref ar)])) _
    refine XS.dup X107.here hx rfl (hb hby dmgr_19) rfl rfl ?_
    show Steps p.tables e below (T107.setTop (mkF m 20 #[] [(.ref ar), (.ref ar)])) _
    refine XS.iconst X107.here hx rfl (hb hby dmgr_20) ?_
    show Steps p.tables e below (T107.setTop (mkF m 21 #[] [(.int (3 : Int32)), (.ref ar), (.ref ar)])) _
    refine XS.bipush X107.here hx rfl (hb hby dmgr_21) ?_
    show Steps p.tables e below (T107.setTop (mkF m 23 #[] [(.int (58 : Int32)), (.int (3 : Int32)), (.ref ar), (.ref ar)])) _
    refine st109 _ ?_
    show Steps p.tables e below (T109.setTop (mkF m 24 #[] [(.ref ar)])) _
    refine XS.dup X109.here hx rfl (hb hby dmgr_24) rfl rfl ?_
    show Steps p.tables e below (T109.setTop (mkF m 25 #[] [(.ref ar), (.ref ar)])) _
    refine XS.iconst X109.here hx rfl (hb hby dmgr_25) ?_
    show Steps p.tables e below (T109.setTop (mkF m 26 #[] [(.int (4 : Int32)), (.ref ar), (.ref ar)])) _
    refine XS.bipush X109.here hx rfl (hb hby dmgr_26) ?_
    show Steps p.tables e below (T109.setTop (mkF m 28 #[] [(.int (111 : Int32)), (.int (4 : Int32)), (.ref ar), (.ref ar)])) _
    refine st111 _ ?_
    show Steps p.tables e below (T111.setTop (mkF m 29 #[] [(.ref ar)])) _
    refine XS.dup X111.here hx rfl (hb hby dmgr_29) rfl rfl ?_
    show Steps p.tables e below (T111.setTop (mkF m 30 #[] [(.ref ar), (.ref ar)])) _
    refine XS.iconst X111.here hx rfl (hb hby dmgr_30) ?_
    show Steps p.tables e below (T111.setTop (mkF m 31 #[] [(.int (5 : Int32)), (.ref ar), (.ref ar)])) _
    refine XS.bipush X111.here hx rfl (hb hby dmgr_31) ?_
    show Steps p.tables e below (T111.setTop (mkF m 33 #[] [(.int (109 : Int32)), (.int (5 : Int32)), (.ref ar), (.ref ar)])) _
    refine st113 _ ?_
    show Steps p.tables e below (T113.setTop (mkF m 34 #[] [(.ref ar)])) _
    refine XS.dup X113.here hx rfl (hb hby dmgr_34) rfl rfl ?_
    show Steps p.tables e below (T113.setTop (mkF m 35 #[] [(.ref ar), (.ref ar)])) _
    refine XS.bipush X113.here hx rfl (hb hby dmgr_35) ?_
    show Steps p.tables e below (T113.setTop (mkF m 37 #[] [(.int (6 : Int32)), (.ref ar), (.ref ar)])) _
    refine XS.bipush X113.here hx rfl (hb hby dmgr_37) ?_
    show Steps p.tables e below (T113.setTop (mkF m 39 #[] [(.int (103 : Int32)), (.int (6 : Int32)), (.ref ar), (.ref ar)])) _
    refine st115 _ ?_
    show Steps p.tables e below (T115.setTop (mkF m 40 #[] [(.ref ar)])) _
    refine XS.dup X115.here hx rfl (hb hby dmgr_40) rfl rfl ?_
    show Steps p.tables e below (T115.setTop (mkF m 41 #[] [(.ref ar), (.ref ar)])) _
    refine XS.bipush X115.here hx rfl (hb hby dmgr_41) ?_
    show Steps p.tables e below (T115.setTop (mkF m 43 #[] [(.int (7 : Int32)), (.ref ar), (.ref ar)])) _
    refine XS.bipush X115.here hx rfl (hb hby dmgr_43) ?_
    show Steps p.tables e below (T115.setTop (mkF m 45 #[] [(.int (46 : Int32)), (.int (7 : Int32)), (.ref ar), (.ref ar)])) _
    refine st117 _ ?_
    show Steps p.tables e below (T117.setTop (mkF m 46 #[] [(.ref ar)])) _
    refine XS.dup X117.here hx rfl (hb hby dmgr_46) rfl rfl ?_
    show Steps p.tables e below (T117.setTop (mkF m 47 #[] [(.ref ar), (.ref ar)])) _
    refine XS.bipush X117.here hx rfl (hb hby dmgr_47) ?_
    show Steps p.tables e below (T117.setTop (mkF m 49 #[] [(.int (8 : Int32)), (.ref ar), (.ref ar)])) _
    refine XS.bipush X117.here hx rfl (hb hby dmgr_49) ?_
    show Steps p.tables e below (T117.setTop (mkF m 51 #[] [(.int (111 : Int32)), (.int (8 : Int32)), (.ref ar), (.ref ar)])) _
    refine st119 _ ?_
    show Steps p.tables e below (T119.setTop (mkF m 52 #[] [(.ref ar)])) _
    refine XS.dup X119.here hx rfl (hb hby dmgr_52) rfl rfl ?_
    show Steps p.tables e below (T119.setTop (mkF m 53 #[] [(.ref ar), (.ref ar)])) _
    refine XS.bipush X119.here hx rfl (hb hby dmgr_53) ?_
    show Steps p.tables e below (T119.setTop (mkF m 55 #[] [(.int (9 : Int32)), (.ref ar), (.ref ar)])) _
    refine XS.bipush X119.here hx rfl (hb hby dmgr_55) ?_
    show Steps p.tables e below (T119.setTop (mkF m 57 #[] [(.int (114 : Int32)), (.int (9 : Int32)), (.ref ar), (.ref ar)])) _
    refine st121 _ ?_
    show Steps p.tables e below (T121.setTop (mkF m 58 #[] [(.ref ar)])) _
    refine XS.dup X121.here hx rfl (hb hby dmgr_58) rfl rfl ?_
    show Steps p.tables e below (T121.setTop (mkF m 59 #[] [(.ref ar), (.ref ar)])) _
    refine XS.bipush X121.here hx rfl (hb hby dmgr_59) ?_
    show Steps p.tables e below (T121.setTop (mkF m 61 #[] [(.int (10 : Int32)), (.ref ar), (.ref ar)])) _
    refine XS.bipush X121.here hx rfl (hb hby dmgr_61) ?_
    show Steps p.tables e below (T121.setTop (mkF m 63 #[] [(.int (103 : Int32)), (.int (10 : Int32)), (.ref ar), (.ref ar)])) _
    refine st123 _ ?_
    show Steps p.tables e below (T123.setTop (mkF m 64 #[] [(.ref ar)])) _
    refine XS.dup X123.here hx rfl (hb hby dmgr_64) rfl rfl ?_
    show Steps p.tables e below (T123.setTop (mkF m 65 #[] [(.ref ar), (.ref ar)])) _
    refine XS.bipush X123.here hx rfl (hb hby dmgr_65) ?_
    show Steps p.tables e below (T123.setTop (mkF m 67 #[] [(.int (11 : Int32)), (.ref ar), (.ref ar)])) _
    refine XS.bipush X123.here hx rfl (hb hby dmgr_67) ?_
    show Steps p.tables e below (T123.setTop (mkF m 69 #[] [(.int (47 : Int32)), (.int (11 : Int32)), (.ref ar), (.ref ar)])) _
    refine st125 _ ?_
    show Steps p.tables e below (T125.setTop (mkF m 70 #[] [(.ref ar)])) _
    refine XS.dup X125.here hx rfl (hb hby dmgr_70) rfl rfl ?_
    show Steps p.tables e below (T125.setTop (mkF m 71 #[] [(.ref ar), (.ref ar)])) _
    refine XS.bipush X125.here hx rfl (hb hby dmgr_71) ?_
    show Steps p.tables e below (T125.setTop (mkF m 73 #[] [(.int (12 : Int32)), (.ref ar), (.ref ar)])) _
    refine XS.bipush X125.here hx rfl (hb hby dmgr_73) ?_
    show Steps p.tables e below (T125.setTop (mkF m 75 #[] [(.int (80 : Int32)), (.int (12 : Int32)), (.ref ar), (.ref ar)])) _
    refine st127 _ ?_
    show Steps p.tables e below (T127.setTop (mkF m 76 #[] [(.ref ar)])) _
    refine XS.dup X127.here hx rfl (hb hby dmgr_76) rfl rfl ?_
    show Steps p.tables e below (T127.setTop (mkF m 77 #[] [(.ref ar), (.ref ar)])) _
    refine XS.bipush X127.here hx rfl (hb hby dmgr_77) ?_
    show Steps p.tables e below (T127.setTop (mkF m 79 #[] [(.int (13 : Int32)), (.ref ar), (.ref ar)])) _
    refine XS.bipush X127.here hx rfl (hb hby dmgr_79) ?_
    show Steps p.tables e below (T127.setTop (mkF m 81 #[] [(.int (111 : Int32)), (.int (13 : Int32)), (.ref ar), (.ref ar)])) _
    refine st129 _ ?_
    show Steps p.tables e below (T129.setTop (mkF m 82 #[] [(.ref ar)])) _
    refine XS.dup X129.here hx rfl (hb hby dmgr_82) rfl rfl ?_
    show Steps p.tables e below (T129.setTop (mkF m 83 #[] [(.ref ar), (.ref ar)])) _
    refine XS.bipush X129.here hx rfl (hb hby dmgr_83) ?_
    show Steps p.tables e below (T129.setTop (mkF m 85 #[] [(.int (14 : Int32)), (.ref ar), (.ref ar)])) _
    refine XS.bipush X129.here hx rfl (hb hby dmgr_85) ?_
    show Steps p.tables e below (T129.setTop (mkF m 87 #[] [(.int (114 : Int32)), (.int (14 : Int32)), (.ref ar), (.ref ar)])) _
    refine st131 _ ?_
    show Steps p.tables e below (T131.setTop (mkF m 88 #[] [(.ref ar)])) _
    refine XS.dup X131.here hx rfl (hb hby dmgr_88) rfl rfl ?_
    show Steps p.tables e below (T131.setTop (mkF m 89 #[] [(.ref ar), (.ref ar)])) _
    refine XS.bipush X131.here hx rfl (hb hby dmgr_89) ?_
    show Steps p.tables e below (T131.setTop (mkF m 91 #[] [(.int (15 : Int32)), (.ref ar), (.ref ar)])) _
    refine XS.bipush X131.here hx rfl (hb hby dmgr_91) ?_
    show Steps p.tables e below (T131.setTop (mkF m 93 #[] [(.int (116 : Int32)), (.int (15 : Int32)), (.ref ar), (.ref ar)])) _
    refine st133 _ ?_
    show Steps p.tables e below (T133.setTop (mkF m 94 #[] [(.ref ar)])) _
    refine XS.dup X133.here hx rfl (hb hby dmgr_94) rfl rfl ?_
    show Steps p.tables e below (T133.setTop (mkF m 95 #[] [(.ref ar), (.ref ar)])) _
    refine XS.bipush X133.here hx rfl (hb hby dmgr_95) ?_
    show Steps p.tables e below (T133.setTop (mkF m 97 #[] [(.int (16 : Int32)), (.ref ar), (.ref ar)])) _
    refine XS.bipush X133.here hx rfl (hb hby dmgr_97) ?_
    show Steps p.tables e below (T133.setTop (mkF m 99 #[] [(.int (97 : Int32)), (.int (16 : Int32)), (.ref ar), (.ref ar)])) _
    refine st135 _ ?_
    show Steps p.tables e below (T135.setTop (mkF m 100 #[] [(.ref ar)])) _
    refine XS.dup X135.here hx rfl (hb hby dmgr_100) rfl rfl ?_
    show Steps p.tables e below (T135.setTop (mkF m 101 #[] [(.ref ar), (.ref ar)])) _
    refine XS.bipush X135.here hx rfl (hb hby dmgr_101) ?_
    show Steps p.tables e below (T135.setTop (mkF m 103 #[] [(.int (17 : Int32)), (.ref ar), (.ref ar)])) _
    refine XS.bipush X135.here hx rfl (hb hby dmgr_103) ?_
    show Steps p.tables e below (T135.setTop (mkF m 105 #[] [(.int (98 : Int32)), (.int (17 : Int32)), (.ref ar), (.ref ar)])) _
    refine st137 _ ?_
    show Steps p.tables e below (T137.setTop (mkF m 106 #[] [(.ref ar)])) _
    refine XS.dup X137.here hx rfl (hb hby dmgr_106) rfl rfl ?_
    show Steps p.tables e below (T137.setTop (mkF m 107 #[] [(.ref ar), (.ref ar)])) _
    refine XS.bipush X137.here hx rfl (hb hby dmgr_107) ?_
    show Steps p.tables e below (T137.setTop (mkF m 109 #[] [(.int (18 : Int32)), (.ref ar), (.ref ar)])) _
    refine XS.bipush X137.here hx rfl (hb hby dmgr_109) ?_
    show Steps p.tables e below (T137.setTop (mkF m 111 #[] [(.int (108 : Int32)), (.int (18 : Int32)), (.ref ar), (.ref ar)])) _
    refine st139 _ ?_
    show Steps p.tables e below (T139.setTop (mkF m 112 #[] [(.ref ar)])) _
    refine XS.dup X139.here hx rfl (hb hby dmgr_112) rfl rfl ?_
    show Steps p.tables e below (T139.setTop (mkF m 113 #[] [(.ref ar), (.ref ar)])) _
    refine XS.bipush X139.here hx rfl (hb hby dmgr_113) ?_
    show Steps p.tables e below (T139.setTop (mkF m 115 #[] [(.int (19 : Int32)), (.ref ar), (.ref ar)])) _
    refine XS.bipush X139.here hx rfl (hb hby dmgr_115) ?_
    show Steps p.tables e below (T139.setTop (mkF m 117 #[] [(.int (101 : Int32)), (.int (19 : Int32)), (.ref ar), (.ref ar)])) _
    refine st141 _ ?_
    show Steps p.tables e below (T141.setTop (mkF m 118 #[] [(.ref ar)])) _
    refine XS.dup X141.here hx rfl (hb hby dmgr_118) rfl rfl ?_
    show Steps p.tables e below (T141.setTop (mkF m 119 #[] [(.ref ar), (.ref ar)])) _
    refine XS.bipush X141.here hx rfl (hb hby dmgr_119) ?_
    show Steps p.tables e below (T141.setTop (mkF m 121 #[] [(.int (20 : Int32)), (.ref ar), (.ref ar)])) _
    refine XS.bipush X141.here hx rfl (hb hby dmgr_121) ?_
    show Steps p.tables e below (T141.setTop (mkF m 123 #[] [(.int (83 : Int32)), (.int (20 : Int32)), (.ref ar), (.ref ar)])) _
    refine st143 _ ?_
    show Steps p.tables e below (T143.setTop (mkF m 124 #[] [(.ref ar)])) _
    refine XS.dup X143.here hx rfl (hb hby dmgr_124) rfl rfl ?_
    show Steps p.tables e below (T143.setTop (mkF m 125 #[] [(.ref ar), (.ref ar)])) _
    refine XS.bipush X143.here hx rfl (hb hby dmgr_125) ?_
    show Steps p.tables e below (T143.setTop (mkF m 127 #[] [(.int (21 : Int32)), (.ref ar), (.ref ar)])) _
    refine XS.bipush X143.here hx rfl (hb hby dmgr_127) ?_
    show Steps p.tables e below (T143.setTop (mkF m 129 #[] [(.int (101 : Int32)), (.int (21 : Int32)), (.ref ar), (.ref ar)])) _
    refine st145 _ ?_
    show Steps p.tables e below (T145.setTop (mkF m 130 #[] [(.ref ar)])) _
    refine XS.dup X145.here hx rfl (hb hby dmgr_130) rfl rfl ?_
    show Steps p.tables e below (T145.setTop (mkF m 131 #[] [(.ref ar), (.ref ar)])) _
    refine XS.bipush X145.here hx rfl (hb hby dmgr_131) ?_
    show Steps p.tables e below (T145.setTop (mkF m 133 #[] [(.int (22 : Int32)), (.ref ar), (.ref ar)])) _
    refine XS.bipush X145.here hx rfl (hb hby dmgr_133) ?_
    show Steps p.tables e below (T145.setTop (mkF m 135 #[] [(.int (114 : Int32)), (.int (22 : Int32)), (.ref ar), (.ref ar)])) _
    refine st147 _ ?_
    show Steps p.tables e below (T147.setTop (mkF m 136 #[] [(.ref ar)])) _
    refine XS.dup X147.here hx rfl (hb hby dmgr_136) rfl rfl ?_
    show Steps p.tables e below (T147.setTop (mkF m 137 #[] [(.ref ar), (.ref ar)])) _
    refine XS.bipush X147.here hx rfl (hb hby dmgr_137) ?_
    show Steps p.tables e below (T147.setTop (mkF m 139 #[] [(.int (23 : Int32)), (.ref ar), (.ref ar)])) _
    refine XS.bipush X147.here hx rfl (hb hby dmgr_139) ?_
    show Steps p.tables e below (T147.setTop (mkF m 141 #[] [(.int (118 : Int32)), (.int (23 : Int32)), (.ref ar), (.ref ar)])) _
    refine st149 _ ?_
    show Steps p.tables e below (T149.setTop (mkF m 142 #[] [(.ref ar)])) _
    refine XS.dup X149.here hx rfl (hb hby dmgr_142) rfl rfl ?_
    show Steps p.tables e below (T149.setTop (mkF m 143 #[] [(.ref ar), (.ref ar)])) _
    refine XS.bipush X149.here hx rfl (hb hby dmgr_143) ?_
    show Steps p.tables e below (T149.setTop (mkF m 145 #[] [(.int (24 : Int32)), (.ref ar), (.ref ar)])) _
    refine XS.bipush X149.here hx rfl (hb hby dmgr_145) ?_
    show Steps p.tables e below (T149.setTop (mkF m 147 #[] [(.int (101 : Int32)), (.int (24 : Int32)), (.ref ar), (.ref ar)])) _
    refine st151 _ ?_
    show Steps p.tables e below (T151.setTop (mkF m 148 #[] [(.ref ar)])) _
    refine XS.dup X151.here hx rfl (hb hby dmgr_148) rfl rfl ?_
    show Steps p.tables e below (T151.setTop (mkF m 149 #[] [(.ref ar), (.ref ar)])) _
    refine XS.bipush X151.here hx rfl (hb hby dmgr_149) ?_
    show Steps p.tables e below (T151.setTop (mkF m 151 #[] [(.int (25 : Int32)), (.ref ar), (.ref ar)])) _
    refine XS.bipush X151.here hx rfl (hb hby dmgr_151) ?_
    show Steps p.tables e below (T151.setTop (mkF m 153 #[] [(.int (114 : Int32)), (.int (25 : Int32)), (.ref ar), (.ref ar)])) _
    refine st153 _ ?_
    show Steps p.tables e below (T153.setTop (mkF m 154 #[] [(.ref ar)])) _
    refine XS.dup X153.here hx rfl (hb hby dmgr_154) rfl rfl ?_
    show Steps p.tables e below (T153.setTop (mkF m 155 #[] [(.ref ar), (.ref ar)])) _
    refine XS.bipush X153.here hx rfl (hb hby dmgr_155) ?_
    show Steps p.tables e below (T153.setTop (mkF m 157 #[] [(.int (26 : Int32)), (.ref ar), (.ref ar)])) _
    refine XS.bipush X153.here hx rfl (hb hby dmgr_157) ?_
    show Steps p.tables e below (T153.setTop (mkF m 159 #[] [(.int (47 : Int32)), (.int (26 : Int32)), (.ref ar), (.ref ar)])) _
    refine st155 _ ?_
    show Steps p.tables e below (T155.setTop (mkF m 160 #[] [(.ref ar)])) _
    refine XS.dup X155.here hx rfl (hb hby dmgr_160) rfl rfl ?_
    show Steps p.tables e below (T155.setTop (mkF m 161 #[] [(.ref ar), (.ref ar)])) _
    refine XS.bipush X155.here hx rfl (hb hby dmgr_161) ?_
    show Steps p.tables e below (T155.setTop (mkF m 163 #[] [(.int (27 : Int32)), (.ref ar), (.ref ar)])) _
    refine XS.bipush X155.here hx rfl (hb hby dmgr_163) ?_
    show Steps p.tables e below (T155.setTop (mkF m 165 #[] [(.int (80 : Int32)), (.int (27 : Int32)), (.ref ar), (.ref ar)])) _
    refine st157 _ ?_
    show Steps p.tables e below (T157.setTop (mkF m 166 #[] [(.ref ar)])) _
    refine XS.dup X157.here hx rfl (hb hby dmgr_166) rfl rfl ?_
    show Steps p.tables e below (T157.setTop (mkF m 167 #[] [(.ref ar), (.ref ar)])) _
    refine XS.bipush X157.here hx rfl (hb hby dmgr_167) ?_
    show Steps p.tables e below (T157.setTop (mkF m 169 #[] [(.int (28 : Int32)), (.ref ar), (.ref ar)])) _
    refine XS.bipush X157.here hx rfl (hb hby dmgr_169) ?_
    show Steps p.tables e below (T157.setTop (mkF m 171 #[] [(.int (79 : Int32)), (.int (28 : Int32)), (.ref ar), (.ref ar)])) _
    refine st159 _ ?_
    show Steps p.tables e below (T159.setTop (mkF m 172 #[] [(.ref ar)])) _
    refine XS.dup X159.here hx rfl (hb hby dmgr_172) rfl rfl ?_
    show Steps p.tables e below (T159.setTop (mkF m 173 #[] [(.ref ar), (.ref ar)])) _
    refine XS.bipush X159.here hx rfl (hb hby dmgr_173) ?_
    show Steps p.tables e below (T159.setTop (mkF m 175 #[] [(.int (29 : Int32)), (.ref ar), (.ref ar)])) _
    refine XS.bipush X159.here hx rfl (hb hby dmgr_175) ?_
    show Steps p.tables e below (T159.setTop (mkF m 177 #[] [(.int (65 : Int32)), (.int (29 : Int32)), (.ref ar), (.ref ar)])) _
    refine st161 _ ?_
    show Steps p.tables e below (T161.setTop (mkF m 178 #[] [(.ref ar)])) _
    refine XS.dup X161.here hx rfl (hb hby dmgr_178) rfl rfl ?_
    show Steps p.tables e below (T161.setTop (mkF m 179 #[] [(.ref ar), (.ref ar)])) _
    refine XS.bipush X161.here hx rfl (hb hby dmgr_179) ?_
    show Steps p.tables e below (T161.setTop (mkF m 181 #[] [(.int (30 : Int32)), (.ref ar), (.ref ar)])) _
    refine XS.bipush X161.here hx rfl (hb hby dmgr_181) ?_
    show Steps p.tables e below (T161.setTop (mkF m 183 #[] [(.int (77 : Int32)), (.int (30 : Int32)), (.ref ar), (.ref ar)])) _
    refine st163 _ ?_
    show Steps p.tables e below (T163.setTop (mkF m 184 #[] [(.ref ar)])) _
    refine XS.dup X163.here hx rfl (hb hby dmgr_184) rfl rfl ?_
    show Steps p.tables e below (T163.setTop (mkF m 185 #[] [(.ref ar), (.ref ar)])) _
    refine XS.bipush X163.here hx rfl (hb hby dmgr_185) ?_
    show Steps p.tables e below (T163.setTop (mkF m 187 #[] [(.int (31 : Int32)), (.ref ar), (.ref ar)])) _
    refine XS.bipush X163.here hx rfl (hb hby dmgr_187) ?_
    show Steps p.tables e below (T163.setTop (mkF m 189 #[] [(.int (97 : Int32)), (.int (31 : Int32)), (.ref ar), (.ref ar)])) _
    refine st165 _ ?_
    show Steps p.tables e below (T165.setTop (mkF m 190 #[] [(.ref ar)])) _
    refine XS.dup X165.here hx rfl (hb hby dmgr_190) rfl rfl ?_
    show Steps p.tables e below (T165.setTop (mkF m 191 #[] [(.ref ar), (.ref ar)])) _
    refine XS.bipush X165.here hx rfl (hb hby dmgr_191) ?_
    show Steps p.tables e below (T165.setTop (mkF m 193 #[] [(.int (32 : Int32)), (.ref ar), (.ref ar)])) _
    refine XS.bipush X165.here hx rfl (hb hby dmgr_193) ?_
    show Steps p.tables e below (T165.setTop (mkF m 195 #[] [(.int (110 : Int32)), (.int (32 : Int32)), (.ref ar), (.ref ar)])) _
    refine st167 _ ?_
    show Steps p.tables e below (T167.setTop (mkF m 196 #[] [(.ref ar)])) _
    refine XS.dup X167.here hx rfl (hb hby dmgr_196) rfl rfl ?_
    show Steps p.tables e below (T167.setTop (mkF m 197 #[] [(.ref ar), (.ref ar)])) _
    refine XS.bipush X167.here hx rfl (hb hby dmgr_197) ?_
    show Steps p.tables e below (T167.setTop (mkF m 199 #[] [(.int (33 : Int32)), (.ref ar), (.ref ar)])) _
    refine XS.bipush X167.here hx rfl (hb hby dmgr_199) ?_
    show Steps p.tables e below (T167.setTop (mkF m 201 #[] [(.int (97 : Int32)), (.int (33 : Int32)), (.ref ar), (.ref ar)])) _
    refine st169 _ ?_
    show Steps p.tables e below (T169.setTop (mkF m 202 #[] [(.ref ar)])) _
    refine XS.dup X169.here hx rfl (hb hby dmgr_202) rfl rfl ?_
    show Steps p.tables e below (T169.setTop (mkF m 203 #[] [(.ref ar), (.ref ar)])) _
    refine XS.bipush X169.here hx rfl (hb hby dmgr_203) ?_
    show Steps p.tables e below (T169.setTop (mkF m 205 #[] [(.int (34 : Int32)), (.ref ar), (.ref ar)])) _
    refine XS.bipush X169.here hx rfl (hb hby dmgr_205) ?_
    show Steps p.tables e below (T169.setTop (mkF m 207 #[] [(.int (103 : Int32)), (.int (34 : Int32)), (.ref ar), (.ref ar)])) _
    refine st171 _ ?_
    show Steps p.tables e below (T171.setTop (mkF m 208 #[] [(.ref ar)])) _
    refine XS.dup X171.here hx rfl (hb hby dmgr_208) rfl rfl ?_
    show Steps p.tables e below (T171.setTop (mkF m 209 #[] [(.ref ar), (.ref ar)])) _
    refine XS.bipush X171.here hx rfl (hb hby dmgr_209) ?_
    show Steps p.tables e below (T171.setTop (mkF m 211 #[] [(.int (35 : Int32)), (.ref ar), (.ref ar)])) _
    refine XS.bipush X171.here hx rfl (hb hby dmgr_211) ?_
    show Steps p.tables e below (T171.setTop (mkF m 213 #[] [(.int (101 : Int32)), (.int (35 : Int32)), (.ref ar), (.ref ar)])) _
    refine st173 _ ?_
    show Steps p.tables e below (T173.setTop (mkF m 214 #[] [(.ref ar)])) _
    refine XS.dup X173.here hx rfl (hb hby dmgr_214) rfl rfl ?_
    show Steps p.tables e below (T173.setTop (mkF m 215 #[] [(.ref ar), (.ref ar)])) _
    refine XS.bipush X173.here hx rfl (hb hby dmgr_215) ?_
    show Steps p.tables e below (T173.setTop (mkF m 217 #[] [(.int (36 : Int32)), (.ref ar), (.ref ar)])) _
    refine XS.bipush X173.here hx rfl (hb hby dmgr_217) ?_
    show Steps p.tables e below (T173.setTop (mkF m 219 #[] [(.int (114 : Int32)), (.int (36 : Int32)), (.ref ar), (.ref ar)])) _
    refine st175 _ ?_
    show Steps p.tables e below (T175.setTop (mkF m 220 #[] [(.ref ar)])) _
    refine XS.dup X175.here hx rfl (hb hby dmgr_220) rfl rfl ?_
    show Steps p.tables e below (T175.setTop (mkF m 221 #[] [(.ref ar), (.ref ar)])) _
    refine XS.bipush X175.here hx rfl (hb hby dmgr_221) ?_
    show Steps p.tables e below (T175.setTop (mkF m 223 #[] [(.int (37 : Int32)), (.ref ar), (.ref ar)])) _
    refine XS.bipush X175.here hx rfl (hb hby dmgr_223) ?_
    show Steps p.tables e below (T175.setTop (mkF m 225 #[] [(.int (58 : Int32)), (.int (37 : Int32)), (.ref ar), (.ref ar)])) _
    refine st177 _ ?_
    show Steps p.tables e below (T177.setTop (mkF m 226 #[] [(.ref ar)])) _
    refine XS.dup X177.here hx rfl (hb hby dmgr_226) rfl rfl ?_
    show Steps p.tables e below (T177.setTop (mkF m 227 #[] [(.ref ar), (.ref ar)])) _
    refine XS.bipush X177.here hx rfl (hb hby dmgr_227) ?_
    show Steps p.tables e below (T177.setTop (mkF m 229 #[] [(.int (38 : Int32)), (.ref ar), (.ref ar)])) _
    refine XS.bipush X177.here hx rfl (hb hby dmgr_229) ?_
    show Steps p.tables e below (T177.setTop (mkF m 231 #[] [(.int (50 : Int32)), (.int (38 : Int32)), (.ref ar), (.ref ar)])) _
    refine st179 _ ?_
    show Steps p.tables e below (T179.setTop (mkF m 232 #[] [(.ref ar)])) _
    refine XS.dup X179.here hx rfl (hb hby dmgr_232) rfl rfl ?_
    show Steps p.tables e below (T179.setTop (mkF m 233 #[] [(.ref ar), (.ref ar)])) _
    refine XS.bipush X179.here hx rfl (hb hby dmgr_233) ?_
    show Steps p.tables e below (T179.setTop (mkF m 235 #[] [(.int (39 : Int32)), (.ref ar), (.ref ar)])) _
    refine XS.bipush X179.here hx rfl (hb hby dmgr_235) ?_
    show Steps p.tables e below (T179.setTop (mkF m 237 #[] [(.int (46 : Int32)), (.int (39 : Int32)), (.ref ar), (.ref ar)])) _
    refine st181 _ ?_
    show Steps p.tables e below (T181.setTop (mkF m 238 #[] [(.ref ar)])) _
    refine XS.dup X181.here hx rfl (hb hby dmgr_238) rfl rfl ?_
    show Steps p.tables e below (T181.setTop (mkF m 239 #[] [(.ref ar), (.ref ar)])) _
    refine XS.bipush X181.here hx rfl (hb hby dmgr_239) ?_
    show Steps p.tables e below (T181.setTop (mkF m 241 #[] [(.int (40 : Int32)), (.ref ar), (.ref ar)])) _
    refine XS.bipush X181.here hx rfl (hb hby dmgr_241) ?_
    show Steps p.tables e below (T181.setTop (mkF m 243 #[] [(.int (51 : Int32)), (.int (40 : Int32)), (.ref ar), (.ref ar)])) _
    refine st183 _ ?_
    show Steps p.tables e below (T183.setTop (mkF m 244 #[] [(.ref ar)])) _
    jvm_step X183.here [X183.here.top, hx, (hb hby dmgr_244), X183.method', Bd.returns, Value.isRef, FieldType.isReference]
    first | (intro acts; rw [hr _ acts rfl rfl rfl]) | rw [hr _ _ rfl rfl rfl]
    exact Steps.refl _
  · show QA Z (41 : Int32) own_L0 h0 n0 _ T183.heap _
    rw [e183]
    exact ⟨_, _, rfl, N183, KH184, g_ar, sz_ar, V_ar_183⟩
theorem dobj_0 : decode method_4_code 0 = .ok (.bipush 28, 2) := by decide +kernel
theorem dobj_2 : decode method_4_code 2 = .ok (.newarray .char, 2) := by decide +kernel
theorem dobj_4 : decode method_4_code 4 = .ok (.dup, 1) := by decide +kernel
theorem dobj_5 : decode method_4_code 5 = .ok (.iconst 0, 1) := by decide +kernel
theorem dobj_6 : decode method_4_code 6 = .ok (.bipush 73, 2) := by decide +kernel
theorem dobj_8 : decode method_4_code 8 = .ok (.castore, 1) := by decide +kernel
theorem dobj_9 : decode method_4_code 9 = .ok (.dup, 1) := by decide +kernel
theorem dobj_10 : decode method_4_code 10 = .ok (.iconst 1, 1) := by decide +kernel
theorem dobj_11 : decode method_4_code 11 = .ok (.bipush 68, 2) := by decide +kernel
theorem dobj_13 : decode method_4_code 13 = .ok (.castore, 1) := by decide +kernel
theorem dobj_14 : decode method_4_code 14 = .ok (.dup, 1) := by decide +kernel
theorem dobj_15 : decode method_4_code 15 = .ok (.iconst 2, 1) := by decide +kernel
theorem dobj_16 : decode method_4_code 16 = .ok (.bipush 76, 2) := by decide +kernel
theorem dobj_18 : decode method_4_code 18 = .ok (.castore, 1) := by decide +kernel
theorem dobj_19 : decode method_4_code 19 = .ok (.dup, 1) := by decide +kernel
theorem dobj_20 : decode method_4_code 20 = .ok (.iconst 3, 1) := by decide +kernel
theorem dobj_21 : decode method_4_code 21 = .ok (.bipush 58, 2) := by decide +kernel
theorem dobj_23 : decode method_4_code 23 = .ok (.castore, 1) := by decide +kernel
theorem dobj_24 : decode method_4_code 24 = .ok (.dup, 1) := by decide +kernel
theorem dobj_25 : decode method_4_code 25 = .ok (.iconst 4, 1) := by decide +kernel
theorem dobj_26 : decode method_4_code 26 = .ok (.bipush 111, 2) := by decide +kernel
theorem dobj_28 : decode method_4_code 28 = .ok (.castore, 1) := by decide +kernel
theorem dobj_29 : decode method_4_code 29 = .ok (.dup, 1) := by decide +kernel
theorem dobj_30 : decode method_4_code 30 = .ok (.iconst 5, 1) := by decide +kernel
theorem dobj_31 : decode method_4_code 31 = .ok (.bipush 109, 2) := by decide +kernel
theorem dobj_33 : decode method_4_code 33 = .ok (.castore, 1) := by decide +kernel
theorem dobj_34 : decode method_4_code 34 = .ok (.dup, 1) := by decide +kernel
theorem dobj_35 : decode method_4_code 35 = .ok (.bipush 6, 2) := by decide +kernel
theorem dobj_37 : decode method_4_code 37 = .ok (.bipush 103, 2) := by decide +kernel
theorem dobj_39 : decode method_4_code 39 = .ok (.castore, 1) := by decide +kernel
theorem dobj_40 : decode method_4_code 40 = .ok (.dup, 1) := by decide +kernel
theorem dobj_41 : decode method_4_code 41 = .ok (.bipush 7, 2) := by decide +kernel
theorem dobj_43 : decode method_4_code 43 = .ok (.bipush 46, 2) := by decide +kernel
theorem dobj_45 : decode method_4_code 45 = .ok (.castore, 1) := by decide +kernel
theorem dobj_46 : decode method_4_code 46 = .ok (.dup, 1) := by decide +kernel
theorem dobj_47 : decode method_4_code 47 = .ok (.bipush 8, 2) := by decide +kernel
theorem dobj_49 : decode method_4_code 49 = .ok (.bipush 111, 2) := by decide +kernel
theorem dobj_51 : decode method_4_code 51 = .ok (.castore, 1) := by decide +kernel
theorem dobj_52 : decode method_4_code 52 = .ok (.dup, 1) := by decide +kernel
theorem dobj_53 : decode method_4_code 53 = .ok (.bipush 9, 2) := by decide +kernel
theorem dobj_55 : decode method_4_code 55 = .ok (.bipush 114, 2) := by decide +kernel
theorem dobj_57 : decode method_4_code 57 = .ok (.castore, 1) := by decide +kernel
theorem dobj_58 : decode method_4_code 58 = .ok (.dup, 1) := by decide +kernel
theorem dobj_59 : decode method_4_code 59 = .ok (.bipush 10, 2) := by decide +kernel
theorem dobj_61 : decode method_4_code 61 = .ok (.bipush 103, 2) := by decide +kernel
theorem dobj_63 : decode method_4_code 63 = .ok (.castore, 1) := by decide +kernel
theorem dobj_64 : decode method_4_code 64 = .ok (.dup, 1) := by decide +kernel
theorem dobj_65 : decode method_4_code 65 = .ok (.bipush 11, 2) := by decide +kernel
theorem dobj_67 : decode method_4_code 67 = .ok (.bipush 47, 2) := by decide +kernel
theorem dobj_69 : decode method_4_code 69 = .ok (.castore, 1) := by decide +kernel
theorem dobj_70 : decode method_4_code 70 = .ok (.dup, 1) := by decide +kernel
theorem dobj_71 : decode method_4_code 71 = .ok (.bipush 12, 2) := by decide +kernel
theorem dobj_73 : decode method_4_code 73 = .ok (.bipush 67, 2) := by decide +kernel
theorem dobj_75 : decode method_4_code 75 = .ok (.castore, 1) := by decide +kernel
theorem dobj_76 : decode method_4_code 76 = .ok (.dup, 1) := by decide +kernel
theorem dobj_77 : decode method_4_code 77 = .ok (.bipush 13, 2) := by decide +kernel
theorem dobj_79 : decode method_4_code 79 = .ok (.bipush 79, 2) := by decide +kernel
theorem dobj_81 : decode method_4_code 81 = .ok (.castore, 1) := by decide +kernel
theorem dobj_82 : decode method_4_code 82 = .ok (.dup, 1) := by decide +kernel
theorem dobj_83 : decode method_4_code 83 = .ok (.bipush 14, 2) := by decide +kernel
theorem dobj_85 : decode method_4_code 85 = .ok (.bipush 82, 2) := by decide +kernel
theorem dobj_87 : decode method_4_code 87 = .ok (.castore, 1) := by decide +kernel
theorem dobj_88 : decode method_4_code 88 = .ok (.dup, 1) := by decide +kernel
theorem dobj_89 : decode method_4_code 89 = .ok (.bipush 15, 2) := by decide +kernel
theorem dobj_91 : decode method_4_code 91 = .ok (.bipush 66, 2) := by decide +kernel
theorem dobj_93 : decode method_4_code 93 = .ok (.castore, 1) := by decide +kernel
theorem dobj_94 : decode method_4_code 94 = .ok (.dup, 1) := by decide +kernel
theorem dobj_95 : decode method_4_code 95 = .ok (.bipush 16, 2) := by decide +kernel
theorem dobj_97 : decode method_4_code 97 = .ok (.bipush 65, 2) := by decide +kernel
theorem dobj_99 : decode method_4_code 99 = .ok (.castore, 1) := by decide +kernel
theorem dobj_100 : decode method_4_code 100 = .ok (.dup, 1) := by decide +kernel
theorem dobj_101 : decode method_4_code 101 = .ok (.bipush 17, 2) := by decide +kernel
theorem dobj_103 : decode method_4_code 103 = .ok (.bipush 47, 2) := by decide +kernel
theorem dobj_105 : decode method_4_code 105 = .ok (.castore, 1) := by decide +kernel
theorem dobj_106 : decode method_4_code 106 = .ok (.dup, 1) := by decide +kernel
theorem dobj_107 : decode method_4_code 107 = .ok (.bipush 18, 2) := by decide +kernel
theorem dobj_109 : decode method_4_code 109 = .ok (.bipush 79, 2) := by decide +kernel
theorem dobj_111 : decode method_4_code 111 = .ok (.castore, 1) := by decide +kernel
theorem dobj_112 : decode method_4_code 112 = .ok (.dup, 1) := by decide +kernel
theorem dobj_113 : decode method_4_code 113 = .ok (.bipush 19, 2) := by decide +kernel
theorem dobj_115 : decode method_4_code 115 = .ok (.bipush 98, 2) := by decide +kernel
theorem dobj_117 : decode method_4_code 117 = .ok (.castore, 1) := by decide +kernel
theorem dobj_118 : decode method_4_code 118 = .ok (.dup, 1) := by decide +kernel
theorem dobj_119 : decode method_4_code 119 = .ok (.bipush 20, 2) := by decide +kernel
theorem dobj_121 : decode method_4_code 121 = .ok (.bipush 106, 2) := by decide +kernel
theorem dobj_123 : decode method_4_code 123 = .ok (.castore, 1) := by decide +kernel
theorem dobj_124 : decode method_4_code 124 = .ok (.dup, 1) := by decide +kernel
theorem dobj_125 : decode method_4_code 125 = .ok (.bipush 21, 2) := by decide +kernel
theorem dobj_127 : decode method_4_code 127 = .ok (.bipush 101, 2) := by decide +kernel
theorem dobj_129 : decode method_4_code 129 = .ok (.castore, 1) := by decide +kernel
theorem dobj_130 : decode method_4_code 130 = .ok (.dup, 1) := by decide +kernel
theorem dobj_131 : decode method_4_code 131 = .ok (.bipush 22, 2) := by decide +kernel
theorem dobj_133 : decode method_4_code 133 = .ok (.bipush 99, 2) := by decide +kernel
theorem dobj_135 : decode method_4_code 135 = .ok (.castore, 1) := by decide +kernel
theorem dobj_136 : decode method_4_code 136 = .ok (.dup, 1) := by decide +kernel
theorem dobj_137 : decode method_4_code 137 = .ok (.bipush 23, 2) := by decide +kernel
theorem dobj_139 : decode method_4_code 139 = .ok (.bipush 116, 2) := by decide +kernel
theorem dobj_141 : decode method_4_code 141 = .ok (.castore, 1) := by decide +kernel
theorem dobj_142 : decode method_4_code 142 = .ok (.dup, 1) := by decide +kernel
theorem dobj_143 : decode method_4_code 143 = .ok (.bipush 24, 2) := by decide +kernel
theorem dobj_145 : decode method_4_code 145 = .ok (.bipush 58, 2) := by decide +kernel
theorem dobj_147 : decode method_4_code 147 = .ok (.castore, 1) := by decide +kernel
theorem dobj_148 : decode method_4_code 148 = .ok (.dup, 1) := by decide +kernel
theorem dobj_149 : decode method_4_code 149 = .ok (.bipush 25, 2) := by decide +kernel
theorem dobj_151 : decode method_4_code 151 = .ok (.bipush 49, 2) := by decide +kernel
theorem dobj_153 : decode method_4_code 153 = .ok (.castore, 1) := by decide +kernel
theorem dobj_154 : decode method_4_code 154 = .ok (.dup, 1) := by decide +kernel
theorem dobj_155 : decode method_4_code 155 = .ok (.bipush 26, 2) := by decide +kernel
theorem dobj_157 : decode method_4_code 157 = .ok (.bipush 46, 2) := by decide +kernel
theorem dobj_159 : decode method_4_code 159 = .ok (.castore, 1) := by decide +kernel
theorem dobj_160 : decode method_4_code 160 = .ok (.dup, 1) := by decide +kernel
theorem dobj_161 : decode method_4_code 161 = .ok (.bipush 27, 2) := by decide +kernel
theorem dobj_163 : decode method_4_code 163 = .ok (.bipush 48, 2) := by decide +kernel
theorem dobj_165 : decode method_4_code 165 = .ok (.castore, 1) := by decide +kernel
theorem dobj_166 : decode method_4_code 166 = .ok (.areturn, 1) := by decide +kernel
theorem ef_obj (m : MethodId)  : entryFrame m #[] 0 = mkF m 0 #[] [] := by first | (simp [entryFrame, mkF, argsToLocals, Value.category]; done) | rfl
set_option maxRecDepth 65536 in
set_option maxHeartbeats 40000000 in
theorem rm_obj (l : Launch) (Z : State) (a0 : Array Value) (hw : ∀ d ∈ tables_1, d.before a0 Z = true) (ws : List Jvm.Cond)  (h0 : Heap) (n0 : Nat) (Z0 : n0 ≤ h0.size) :
    MetFree l (⟨"com/example/tramway/tramway/poa/TramwayPoaManagerIs_aPinLaw", "obj", "()[C"⟩ : MethodName) (head1 (Jvm.Cond.code (⟨"com/example/tramway/tramway/poa/TramwayPoaManagerIs_aPinLaw", "obj", "()[C"⟩ : MethodName) method_4_code 0 (some (.array .char)) :: ws) ({ frames := 0, cells := 1, slots := 28, locals := 0 } : Room)) (fun a U => a = #[] ∧ Z.Warmed39 U.vm ∧ U.heap = h0) (fun _ _ _ _ _ => True) (fun _ U o U' => ∃ v L, o = .returned v ∧ QA Z (28 : Int32) own_L1 h0 n0 v U'.heap L ∧ FrameEnd U o U' L ({ frames := 0, cells := 1, slots := 28, locals := 0 } : Room).cells ({ frames := 0, cells := 1, slots := 28, locals := 0 } : Room).slots) := by
  refine MetFree.of_bodySF (plainFor_of_name pnL) hisR ?_
  intro p e s m args below meth c s₁ Bd hml0 hP hK
  obtain ⟨rfl, hZ, hh⟩ := hP
  have hx := Bd.exec
  have hby := Bd.bytes
  have hml : c.maxLocals = 0 := hml0
  have hown : s.vm.findClass "com/example/tramway/tramway/poa/TramwayPoaManagerIs_aPinLaw" = some m.cls := findClass_of_methodNamed Bd.named
  have hnm := (name_of_methodNamed Bd.named Bd.method).1
  have X0 : Stand p l e ({ frames := 0, cells := 1, slots := 28, locals := 0 } : Room) s m #[] below meth c s₁ [] 0 0 := Stand.of_body Bd
  have e0 : s₁.heap = h0 := by rw [← hh, Bd.state]; rfl
  have N0 := Fr.nil n0
  have go0 : ∀ tg_, Steps p.tables e below (s₁.setTop (mkF m 0 #[] [])) tg_ → Steps p.tables e below (s₁.setTop (entryFrame m #[] 0)) tg_ := fun tg_ k => castTop (ef_obj m ) k
  have KH0 : Keep h0 h0 [] := Keep.refl h0 []
  obtain ⟨T101, h101, k101, X101, e101, E101, A101, st101⟩ := newP X0 hx hZ (hw _ (List.mem_of_getElem? (i := 19) rfl)) e0 (g := (mkF m 2 #[] [(.int (28 : Int32))])) rfl (hb hby dobj_2) rfl (by decide) (cap := 28) (by decide) (by decide) (by decide) (by decide)
  obtain ⟨ar, g101⟩ : ∃ z, z = h0.size := ⟨_, rfl⟩
  rw [← g101] at A101 st101
  have sz_ar : h0.size ≤ ar := Nat.le_trans KH0.1 (Nat.le_of_eq g101.symm)
  have g_ar : n0 ≤ ar := Nat.le_trans Z0 (Nat.le_of_eq g101.symm)
  have V_ar : Arv Z h101 ar k101 .char (28 : Int32) [(.int (0 : Int32)), (.int (0 : Int32)), (.int (0 : Int32)), (.int (0 : Int32)), (.int (0 : Int32)), (.int (0 : Int32)), (.int (0 : Int32)), (.int (0 : Int32)), (.int (0 : Int32)), (.int (0 : Int32)), (.int (0 : Int32)), (.int (0 : Int32)), (.int (0 : Int32)), (.int (0 : Int32)), (.int (0 : Int32)), (.int (0 : Int32)), (.int (0 : Int32)), (.int (0 : Int32)), (.int (0 : Int32)), (.int (0 : Int32)), (.int (0 : Int32)), (.int (0 : Int32)), (.int (0 : Int32)), (.int (0 : Int32)), (.int (0 : Int32)), (.int (0 : Int32)), (.int (0 : Int32)), (.int (0 : Int32))] (.int (0 : Int32)) := (Arv.new A101 (by decide)).pad (pad_rep [] (.int (0 : Int32)) 28)
  have K101 : Keep h0 h101 [] := (Keep.refl _ []).ext E101
  have KH102 : Keep h0 h101 [] := KH0.trans K101 all0
  have lt_ar : ar < h101.size := V_ar.lt
  obtain ⟨cl103, Ar103, q103, S103, M103, Hh103, G103⟩ := id V_ar
  obtain ⟨T103, h103, X103, e103, W103, st103⟩ := stC X101 hx hZ e101 Ar103 (j := (0 : Int32)) (inb_of S103 ⟨by decide, by decide⟩) (g := (mkF m 8 #[] [(.int (73 : Int32)), (.int (0 : Int32)), (.ref ar), (.ref ar)])) rfl rfl (hb hby dobj_8)
  have V_ar_103 : Arv Z h103 ar k101 .char (28 : Int32) [(.int (73 : Int32)), (.int (0 : Int32)), (.int (0 : Int32)), (.int (0 : Int32)), (.int (0 : Int32)), (.int (0 : Int32)), (.int (0 : Int32)), (.int (0 : Int32)), (.int (0 : Int32)), (.int (0 : Int32)), (.int (0 : Int32)), (.int (0 : Int32)), (.int (0 : Int32)), (.int (0 : Int32)), (.int (0 : Int32)), (.int (0 : Int32)), (.int (0 : Int32)), (.int (0 : Int32)), (.int (0 : Int32)), (.int (0 : Int32)), (.int (0 : Int32)), (.int (0 : Int32)), (.int (0 : Int32)), (.int (0 : Int32)), (.int (0 : Int32)), (.int (0 : Int32)), (.int (0 : Int32)), (.int (0 : Int32))] (.int (0 : Int32)) := Arv.set Ar103 q103 S103 M103 Hh103 G103 (fits_nar_char _) W103 0 rfl (Nat.le_of_ble_eq_true rfl)
  have K103 : Keep h101 h103 [ar] := Keep.of_wr W103
  have KH104 : Keep h0 h103 [] := KH102.trans K103 (allS (Or.inr sz_ar) all0)
  have N103 := Fr.snoc X103 N0 g_ar
  obtain ⟨cl105, Ar105, q105, S105, M105, Hh105, G105⟩ := id V_ar_103
  obtain ⟨T105, h105, X105, e105, W105, st105⟩ := stC X103 hx hZ e103 Ar105 (j := (1 : Int32)) (inb_of S105 ⟨by decide, by decide⟩) (g := (mkF m 13 #[] [(.int (68 : Int32)), (.int (1 : Int32)), (.ref ar), (.ref ar)])) rfl rfl (hb hby dobj_13)
  have V_ar_105 : Arv Z h105 ar k101 .char (28 : Int32) [(.int (73 : Int32)), (.int (68 : Int32)), (.int (0 : Int32)), (.int (0 : Int32)), (.int (0 : Int32)), (.int (0 : Int32)), (.int (0 : Int32)), (.int (0 : Int32)), (.int (0 : Int32)), (.int (0 : Int32)), (.int (0 : Int32)), (.int (0 : Int32)), (.int (0 : Int32)), (.int (0 : Int32)), (.int (0 : Int32)), (.int (0 : Int32)), (.int (0 : Int32)), (.int (0 : Int32)), (.int (0 : Int32)), (.int (0 : Int32)), (.int (0 : Int32)), (.int (0 : Int32)), (.int (0 : Int32)), (.int (0 : Int32)), (.int (0 : Int32)), (.int (0 : Int32)), (.int (0 : Int32)), (.int (0 : Int32))] (.int (0 : Int32)) := Arv.set Ar105 q105 S105 M105 Hh105 G105 (fits_nar_char _) W105 1 rfl (Nat.le_of_ble_eq_true rfl)
  have K105 : Keep h103 h105 [ar] := Keep.of_wr W105
  have KH106 : Keep h0 h105 [] := KH104.trans K105 (allS (Or.inr sz_ar) all0)
  have N105 := Fr.snoc X105 N103 g_ar
  obtain ⟨cl107, Ar107, q107, S107, M107, Hh107, G107⟩ := id V_ar_105
  obtain ⟨T107, h107, X107, e107, W107, st107⟩ := stC X105 hx hZ e105 Ar107 (j := (2 : Int32)) (inb_of S107 ⟨by decide, by decide⟩) (g := (mkF m 18 #[] [(.int (76 : Int32)), (.int (2 : Int32)), (.ref ar), (.ref ar)])) rfl rfl (hb hby dobj_18)
  have V_ar_107 : Arv Z h107 ar k101 .char (28 : Int32) [(.int (73 : Int32)), (.int (68 : Int32)), (.int (76 : Int32)), (.int (0 : Int32)), (.int (0 : Int32)), (.int (0 : Int32)), (.int (0 : Int32)), (.int (0 : Int32)), (.int (0 : Int32)), (.int (0 : Int32)), (.int (0 : Int32)), (.int (0 : Int32)), (.int (0 : Int32)), (.int (0 : Int32)), (.int (0 : Int32)), (.int (0 : Int32)), (.int (0 : Int32)), (.int (0 : Int32)), (.int (0 : Int32)), (.int (0 : Int32)), (.int (0 : Int32)), (.int (0 : Int32)), (.int (0 : Int32)), (.int (0 : Int32)), (.int (0 : Int32)), (.int (0 : Int32)), (.int (0 : Int32)), (.int (0 : Int32))] (.int (0 : Int32)) := Arv.set Ar107 q107 S107 M107 Hh107 G107 (fits_nar_char _) W107 2 rfl (Nat.le_of_ble_eq_true rfl)
  have K107 : Keep h105 h107 [ar] := Keep.of_wr W107
  have KH108 : Keep h0 h107 [] := KH106.trans K107 (allS (Or.inr sz_ar) all0)
  have N107 := Fr.snoc X107 N105 g_ar
  obtain ⟨cl109, Ar109, q109, S109, M109, Hh109, G109⟩ := id V_ar_107
  obtain ⟨T109, h109, X109, e109, W109, st109⟩ := stC X107 hx hZ e107 Ar109 (j := (3 : Int32)) (inb_of S109 ⟨by decide, by decide⟩) (g := (mkF m 23 #[] [(.int (58 : Int32)), (.int (3 : Int32)), (.ref ar), (.ref ar)])) rfl rfl (hb hby dobj_23)
  have V_ar_109 : Arv Z h109 ar k101 .char (28 : Int32) [(.int (73 : Int32)), (.int (68 : Int32)), (.int (76 : Int32)), (.int (58 : Int32)), (.int (0 : Int32)), (.int (0 : Int32)), (.int (0 : Int32)), (.int (0 : Int32)), (.int (0 : Int32)), (.int (0 : Int32)), (.int (0 : Int32)), (.int (0 : Int32)), (.int (0 : Int32)), (.int (0 : Int32)), (.int (0 : Int32)), (.int (0 : Int32)), (.int (0 : Int32)), (.int (0 : Int32)), (.int (0 : Int32)), (.int (0 : Int32)), (.int (0 : Int32)), (.int (0 : Int32)), (.int (0 : Int32)), (.int (0 : Int32)), (.int (0 : Int32)), (.int (0 : Int32)), (.int (0 : Int32)), (.int (0 : Int32))] (.int (0 : Int32)) := Arv.set Ar109 q109 S109 M109 Hh109 G109 (fits_nar_char _) W109 3 rfl (Nat.le_of_ble_eq_true rfl)
  have K109 : Keep h107 h109 [ar] := Keep.of_wr W109
  have KH110 : Keep h0 h109 [] := KH108.trans K109 (allS (Or.inr sz_ar) all0)
  have N109 := Fr.snoc X109 N107 g_ar
  obtain ⟨cl111, Ar111, q111, S111, M111, Hh111, G111⟩ := id V_ar_109
  obtain ⟨T111, h111, X111, e111, W111, st111⟩ := stC X109 hx hZ e109 Ar111 (j := (4 : Int32)) (inb_of S111 ⟨by decide, by decide⟩) (g := (mkF m 28 #[] [(.int (111 : Int32)), (.int (4 : Int32)), (.ref ar), (.ref ar)])) rfl rfl (hb hby dobj_28)
  have V_ar_111 : Arv Z h111 ar k101 .char (28 : Int32) [(.int (73 : Int32)), (.int (68 : Int32)), (.int (76 : Int32)), (.int (58 : Int32)), (.int (111 : Int32)), (.int (0 : Int32)), (.int (0 : Int32)), (.int (0 : Int32)), (.int (0 : Int32)), (.int (0 : Int32)), (.int (0 : Int32)), (.int (0 : Int32)), (.int (0 : Int32)), (.int (0 : Int32)), (.int (0 : Int32)), (.int (0 : Int32)), (.int (0 : Int32)), (.int (0 : Int32)), (.int (0 : Int32)), (.int (0 : Int32)), (.int (0 : Int32)), (.int (0 : Int32)), (.int (0 : Int32)), (.int (0 : Int32)), (.int (0 : Int32)), (.int (0 : Int32)), (.int (0 : Int32)), (.int (0 : Int32))] (.int (0 : Int32)) := Arv.set Ar111 q111 S111 M111 Hh111 G111 (fits_nar_char _) W111 4 rfl (Nat.le_of_ble_eq_true rfl)
  have K111 : Keep h109 h111 [ar] := Keep.of_wr W111
  have KH112 : Keep h0 h111 [] := KH110.trans K111 (allS (Or.inr sz_ar) all0)
  have N111 := Fr.snoc X111 N109 g_ar
  obtain ⟨cl113, Ar113, q113, S113, M113, Hh113, G113⟩ := id V_ar_111
  obtain ⟨T113, h113, X113, e113, W113, st113⟩ := stC X111 hx hZ e111 Ar113 (j := (5 : Int32)) (inb_of S113 ⟨by decide, by decide⟩) (g := (mkF m 33 #[] [(.int (109 : Int32)), (.int (5 : Int32)), (.ref ar), (.ref ar)])) rfl rfl (hb hby dobj_33)
  have V_ar_113 : Arv Z h113 ar k101 .char (28 : Int32) [(.int (73 : Int32)), (.int (68 : Int32)), (.int (76 : Int32)), (.int (58 : Int32)), (.int (111 : Int32)), (.int (109 : Int32)), (.int (0 : Int32)), (.int (0 : Int32)), (.int (0 : Int32)), (.int (0 : Int32)), (.int (0 : Int32)), (.int (0 : Int32)), (.int (0 : Int32)), (.int (0 : Int32)), (.int (0 : Int32)), (.int (0 : Int32)), (.int (0 : Int32)), (.int (0 : Int32)), (.int (0 : Int32)), (.int (0 : Int32)), (.int (0 : Int32)), (.int (0 : Int32)), (.int (0 : Int32)), (.int (0 : Int32)), (.int (0 : Int32)), (.int (0 : Int32)), (.int (0 : Int32)), (.int (0 : Int32))] (.int (0 : Int32)) := Arv.set Ar113 q113 S113 M113 Hh113 G113 (fits_nar_char _) W113 5 rfl (Nat.le_of_ble_eq_true rfl)
  have K113 : Keep h111 h113 [ar] := Keep.of_wr W113
  have KH114 : Keep h0 h113 [] := KH112.trans K113 (allS (Or.inr sz_ar) all0)
  have N113 := Fr.snoc X113 N111 g_ar
  obtain ⟨cl115, Ar115, q115, S115, M115, Hh115, G115⟩ := id V_ar_113
  obtain ⟨T115, h115, X115, e115, W115, st115⟩ := stC X113 hx hZ e113 Ar115 (j := (6 : Int32)) (inb_of S115 ⟨by decide, by decide⟩) (g := (mkF m 39 #[] [(.int (103 : Int32)), (.int (6 : Int32)), (.ref ar), (.ref ar)])) rfl rfl (hb hby dobj_39)
  have V_ar_115 : Arv Z h115 ar k101 .char (28 : Int32) [(.int (73 : Int32)), (.int (68 : Int32)), (.int (76 : Int32)), (.int (58 : Int32)), (.int (111 : Int32)), (.int (109 : Int32)), (.int (103 : Int32)), (.int (0 : Int32)), (.int (0 : Int32)), (.int (0 : Int32)), (.int (0 : Int32)), (.int (0 : Int32)), (.int (0 : Int32)), (.int (0 : Int32)), (.int (0 : Int32)), (.int (0 : Int32)), (.int (0 : Int32)), (.int (0 : Int32)), (.int (0 : Int32)), (.int (0 : Int32)), (.int (0 : Int32)), (.int (0 : Int32)), (.int (0 : Int32)), (.int (0 : Int32)), (.int (0 : Int32)), (.int (0 : Int32)), (.int (0 : Int32)), (.int (0 : Int32))] (.int (0 : Int32)) := Arv.set Ar115 q115 S115 M115 Hh115 G115 (fits_nar_char _) W115 6 rfl (Nat.le_of_ble_eq_true rfl)
  have K115 : Keep h113 h115 [ar] := Keep.of_wr W115
  have KH116 : Keep h0 h115 [] := KH114.trans K115 (allS (Or.inr sz_ar) all0)
  have N115 := Fr.snoc X115 N113 g_ar
  obtain ⟨cl117, Ar117, q117, S117, M117, Hh117, G117⟩ := id V_ar_115
  obtain ⟨T117, h117, X117, e117, W117, st117⟩ := stC X115 hx hZ e115 Ar117 (j := (7 : Int32)) (inb_of S117 ⟨by decide, by decide⟩) (g := (mkF m 45 #[] [(.int (46 : Int32)), (.int (7 : Int32)), (.ref ar), (.ref ar)])) rfl rfl (hb hby dobj_45)
  have V_ar_117 : Arv Z h117 ar k101 .char (28 : Int32) [(.int (73 : Int32)), (.int (68 : Int32)), (.int (76 : Int32)), (.int (58 : Int32)), (.int (111 : Int32)), (.int (109 : Int32)), (.int (103 : Int32)), (.int (46 : Int32)), (.int (0 : Int32)), (.int (0 : Int32)), (.int (0 : Int32)), (.int (0 : Int32)), (.int (0 : Int32)), (.int (0 : Int32)), (.int (0 : Int32)), (.int (0 : Int32)), (.int (0 : Int32)), (.int (0 : Int32)), (.int (0 : Int32)), (.int (0 : Int32)), (.int (0 : Int32)), (.int (0 : Int32)), (.int (0 : Int32)), (.int (0 : Int32)), (.int (0 : Int32)), (.int (0 : Int32)), (.int (0 : Int32)), (.int (0 : Int32))] (.int (0 : Int32)) := Arv.set Ar117 q117 S117 M117 Hh117 G117 (fits_nar_char _) W117 7 rfl (Nat.le_of_ble_eq_true rfl)
  have K117 : Keep h115 h117 [ar] := Keep.of_wr W117
  have KH118 : Keep h0 h117 [] := KH116.trans K117 (allS (Or.inr sz_ar) all0)
  have N117 := Fr.snoc X117 N115 g_ar
  obtain ⟨cl119, Ar119, q119, S119, M119, Hh119, G119⟩ := id V_ar_117
  obtain ⟨T119, h119, X119, e119, W119, st119⟩ := stC X117 hx hZ e117 Ar119 (j := (8 : Int32)) (inb_of S119 ⟨by decide, by decide⟩) (g := (mkF m 51 #[] [(.int (111 : Int32)), (.int (8 : Int32)), (.ref ar), (.ref ar)])) rfl rfl (hb hby dobj_51)
  have V_ar_119 : Arv Z h119 ar k101 .char (28 : Int32) [(.int (73 : Int32)), (.int (68 : Int32)), (.int (76 : Int32)), (.int (58 : Int32)), (.int (111 : Int32)), (.int (109 : Int32)), (.int (103 : Int32)), (.int (46 : Int32)), (.int (111 : Int32)), (.int (0 : Int32)), (.int (0 : Int32)), (.int (0 : Int32)), (.int (0 : Int32)), (.int (0 : Int32)), (.int (0 : Int32)), (.int (0 : Int32)), (.int (0 : Int32)), (.int (0 : Int32)), (.int (0 : Int32)), (.int (0 : Int32)), (.int (0 : Int32)), (.int (0 : Int32)), (.int (0 : Int32)), (.int (0 : Int32)), (.int (0 : Int32)), (.int (0 : Int32)), (.int (0 : Int32)), (.int (0 : Int32))] (.int (0 : Int32)) := Arv.set Ar119 q119 S119 M119 Hh119 G119 (fits_nar_char _) W119 8 rfl (Nat.le_of_ble_eq_true rfl)
  have K119 : Keep h117 h119 [ar] := Keep.of_wr W119
  have KH120 : Keep h0 h119 [] := KH118.trans K119 (allS (Or.inr sz_ar) all0)
  have N119 := Fr.snoc X119 N117 g_ar
  obtain ⟨cl121, Ar121, q121, S121, M121, Hh121, G121⟩ := id V_ar_119
  obtain ⟨T121, h121, X121, e121, W121, st121⟩ := stC X119 hx hZ e119 Ar121 (j := (9 : Int32)) (inb_of S121 ⟨by decide, by decide⟩) (g := (mkF m 57 #[] [(.int (114 : Int32)), (.int (9 : Int32)), (.ref ar), (.ref ar)])) rfl rfl (hb hby dobj_57)
  have V_ar_121 : Arv Z h121 ar k101 .char (28 : Int32) [(.int (73 : Int32)), (.int (68 : Int32)), (.int (76 : Int32)), (.int (58 : Int32)), (.int (111 : Int32)), (.int (109 : Int32)), (.int (103 : Int32)), (.int (46 : Int32)), (.int (111 : Int32)), (.int (114 : Int32)), (.int (0 : Int32)), (.int (0 : Int32)), (.int (0 : Int32)), (.int (0 : Int32)), (.int (0 : Int32)), (.int (0 : Int32)), (.int (0 : Int32)), (.int (0 : Int32)), (.int (0 : Int32)), (.int (0 : Int32)), (.int (0 : Int32)), (.int (0 : Int32)), (.int (0 : Int32)), (.int (0 : Int32)), (.int (0 : Int32)), (.int (0 : Int32)), (.int (0 : Int32)), (.int (0 : Int32))] (.int (0 : Int32)) := Arv.set Ar121 q121 S121 M121 Hh121 G121 (fits_nar_char _) W121 9 rfl (Nat.le_of_ble_eq_true rfl)
  have K121 : Keep h119 h121 [ar] := Keep.of_wr W121
  have KH122 : Keep h0 h121 [] := KH120.trans K121 (allS (Or.inr sz_ar) all0)
  have N121 := Fr.snoc X121 N119 g_ar
  obtain ⟨cl123, Ar123, q123, S123, M123, Hh123, G123⟩ := id V_ar_121
  obtain ⟨T123, h123, X123, e123, W123, st123⟩ := stC X121 hx hZ e121 Ar123 (j := (10 : Int32)) (inb_of S123 ⟨by decide, by decide⟩) (g := (mkF m 63 #[] [(.int (103 : Int32)), (.int (10 : Int32)), (.ref ar), (.ref ar)])) rfl rfl (hb hby dobj_63)
  have V_ar_123 : Arv Z h123 ar k101 .char (28 : Int32) [(.int (73 : Int32)), (.int (68 : Int32)), (.int (76 : Int32)), (.int (58 : Int32)), (.int (111 : Int32)), (.int (109 : Int32)), (.int (103 : Int32)), (.int (46 : Int32)), (.int (111 : Int32)), (.int (114 : Int32)), (.int (103 : Int32)), (.int (0 : Int32)), (.int (0 : Int32)), (.int (0 : Int32)), (.int (0 : Int32)), (.int (0 : Int32)), (.int (0 : Int32)), (.int (0 : Int32)), (.int (0 : Int32)), (.int (0 : Int32)), (.int (0 : Int32)), (.int (0 : Int32)), (.int (0 : Int32)), (.int (0 : Int32)), (.int (0 : Int32)), (.int (0 : Int32)), (.int (0 : Int32)), (.int (0 : Int32))] (.int (0 : Int32)) := Arv.set Ar123 q123 S123 M123 Hh123 G123 (fits_nar_char _) W123 10 rfl (Nat.le_of_ble_eq_true rfl)
  have K123 : Keep h121 h123 [ar] := Keep.of_wr W123
  have KH124 : Keep h0 h123 [] := KH122.trans K123 (allS (Or.inr sz_ar) all0)
  have N123 := Fr.snoc X123 N121 g_ar
  obtain ⟨cl125, Ar125, q125, S125, M125, Hh125, G125⟩ := id V_ar_123
  obtain ⟨T125, h125, X125, e125, W125, st125⟩ := stC X123 hx hZ e123 Ar125 (j := (11 : Int32)) (inb_of S125 ⟨by decide, by decide⟩) (g := (mkF m 69 #[] [(.int (47 : Int32)), (.int (11 : Int32)), (.ref ar), (.ref ar)])) rfl rfl (hb hby dobj_69)
  have V_ar_125 : Arv Z h125 ar k101 .char (28 : Int32) [(.int (73 : Int32)), (.int (68 : Int32)), (.int (76 : Int32)), (.int (58 : Int32)), (.int (111 : Int32)), (.int (109 : Int32)), (.int (103 : Int32)), (.int (46 : Int32)), (.int (111 : Int32)), (.int (114 : Int32)), (.int (103 : Int32)), (.int (47 : Int32)), (.int (0 : Int32)), (.int (0 : Int32)), (.int (0 : Int32)), (.int (0 : Int32)), (.int (0 : Int32)), (.int (0 : Int32)), (.int (0 : Int32)), (.int (0 : Int32)), (.int (0 : Int32)), (.int (0 : Int32)), (.int (0 : Int32)), (.int (0 : Int32)), (.int (0 : Int32)), (.int (0 : Int32)), (.int (0 : Int32)), (.int (0 : Int32))] (.int (0 : Int32)) := Arv.set Ar125 q125 S125 M125 Hh125 G125 (fits_nar_char _) W125 11 rfl (Nat.le_of_ble_eq_true rfl)
  have K125 : Keep h123 h125 [ar] := Keep.of_wr W125
  have KH126 : Keep h0 h125 [] := KH124.trans K125 (allS (Or.inr sz_ar) all0)
  have N125 := Fr.snoc X125 N123 g_ar
  obtain ⟨cl127, Ar127, q127, S127, M127, Hh127, G127⟩ := id V_ar_125
  obtain ⟨T127, h127, X127, e127, W127, st127⟩ := stC X125 hx hZ e125 Ar127 (j := (12 : Int32)) (inb_of S127 ⟨by decide, by decide⟩) (g := (mkF m 75 #[] [(.int (67 : Int32)), (.int (12 : Int32)), (.ref ar), (.ref ar)])) rfl rfl (hb hby dobj_75)
  have V_ar_127 : Arv Z h127 ar k101 .char (28 : Int32) [(.int (73 : Int32)), (.int (68 : Int32)), (.int (76 : Int32)), (.int (58 : Int32)), (.int (111 : Int32)), (.int (109 : Int32)), (.int (103 : Int32)), (.int (46 : Int32)), (.int (111 : Int32)), (.int (114 : Int32)), (.int (103 : Int32)), (.int (47 : Int32)), (.int (67 : Int32)), (.int (0 : Int32)), (.int (0 : Int32)), (.int (0 : Int32)), (.int (0 : Int32)), (.int (0 : Int32)), (.int (0 : Int32)), (.int (0 : Int32)), (.int (0 : Int32)), (.int (0 : Int32)), (.int (0 : Int32)), (.int (0 : Int32)), (.int (0 : Int32)), (.int (0 : Int32)), (.int (0 : Int32)), (.int (0 : Int32))] (.int (0 : Int32)) := Arv.set Ar127 q127 S127 M127 Hh127 G127 (fits_nar_char _) W127 12 rfl (Nat.le_of_ble_eq_true rfl)
  have K127 : Keep h125 h127 [ar] := Keep.of_wr W127
  have KH128 : Keep h0 h127 [] := KH126.trans K127 (allS (Or.inr sz_ar) all0)
  have N127 := Fr.snoc X127 N125 g_ar
  obtain ⟨cl129, Ar129, q129, S129, M129, Hh129, G129⟩ := id V_ar_127
  obtain ⟨T129, h129, X129, e129, W129, st129⟩ := stC X127 hx hZ e127 Ar129 (j := (13 : Int32)) (inb_of S129 ⟨by decide, by decide⟩) (g := (mkF m 81 #[] [(.int (79 : Int32)), (.int (13 : Int32)), (.ref ar), (.ref ar)])) rfl rfl (hb hby dobj_81)
  have V_ar_129 : Arv Z h129 ar k101 .char (28 : Int32) [(.int (73 : Int32)), (.int (68 : Int32)), (.int (76 : Int32)), (.int (58 : Int32)), (.int (111 : Int32)), (.int (109 : Int32)), (.int (103 : Int32)), (.int (46 : Int32)), (.int (111 : Int32)), (.int (114 : Int32)), (.int (103 : Int32)), (.int (47 : Int32)), (.int (67 : Int32)), (.int (79 : Int32)), (.int (0 : Int32)), (.int (0 : Int32)), (.int (0 : Int32)), (.int (0 : Int32)), (.int (0 : Int32)), (.int (0 : Int32)), (.int (0 : Int32)), (.int (0 : Int32)), (.int (0 : Int32)), (.int (0 : Int32)), (.int (0 : Int32)), (.int (0 : Int32)), (.int (0 : Int32)), (.int (0 : Int32))] (.int (0 : Int32)) := Arv.set Ar129 q129 S129 M129 Hh129 G129 (fits_nar_char _) W129 13 rfl (Nat.le_of_ble_eq_true rfl)
  have K129 : Keep h127 h129 [ar] := Keep.of_wr W129
  have KH130 : Keep h0 h129 [] := KH128.trans K129 (allS (Or.inr sz_ar) all0)
  have N129 := Fr.snoc X129 N127 g_ar
  obtain ⟨cl131, Ar131, q131, S131, M131, Hh131, G131⟩ := id V_ar_129
  obtain ⟨T131, h131, X131, e131, W131, st131⟩ := stC X129 hx hZ e129 Ar131 (j := (14 : Int32)) (inb_of S131 ⟨by decide, by decide⟩) (g := (mkF m 87 #[] [(.int (82 : Int32)), (.int (14 : Int32)), (.ref ar), (.ref ar)])) rfl rfl (hb hby dobj_87)
  have V_ar_131 : Arv Z h131 ar k101 .char (28 : Int32) [(.int (73 : Int32)), (.int (68 : Int32)), (.int (76 : Int32)), (.int (58 : Int32)), (.int (111 : Int32)), (.int (109 : Int32)), (.int (103 : Int32)), (.int (46 : Int32)), (.int (111 : Int32)), (.int (114 : Int32)), (.int (103 : Int32)), (.int (47 : Int32)), (.int (67 : Int32)), (.int (79 : Int32)), (.int (82 : Int32)), (.int (0 : Int32)), (.int (0 : Int32)), (.int (0 : Int32)), (.int (0 : Int32)), (.int (0 : Int32)), (.int (0 : Int32)), (.int (0 : Int32)), (.int (0 : Int32)), (.int (0 : Int32)), (.int (0 : Int32)), (.int (0 : Int32)), (.int (0 : Int32)), (.int (0 : Int32))] (.int (0 : Int32)) := Arv.set Ar131 q131 S131 M131 Hh131 G131 (fits_nar_char _) W131 14 rfl (Nat.le_of_ble_eq_true rfl)
  have K131 : Keep h129 h131 [ar] := Keep.of_wr W131
  have KH132 : Keep h0 h131 [] := KH130.trans K131 (allS (Or.inr sz_ar) all0)
  have N131 := Fr.snoc X131 N129 g_ar
  obtain ⟨cl133, Ar133, q133, S133, M133, Hh133, G133⟩ := id V_ar_131
  obtain ⟨T133, h133, X133, e133, W133, st133⟩ := stC X131 hx hZ e131 Ar133 (j := (15 : Int32)) (inb_of S133 ⟨by decide, by decide⟩) (g := (mkF m 93 #[] [(.int (66 : Int32)), (.int (15 : Int32)), (.ref ar), (.ref ar)])) rfl rfl (hb hby dobj_93)
  have V_ar_133 : Arv Z h133 ar k101 .char (28 : Int32) [(.int (73 : Int32)), (.int (68 : Int32)), (.int (76 : Int32)), (.int (58 : Int32)), (.int (111 : Int32)), (.int (109 : Int32)), (.int (103 : Int32)), (.int (46 : Int32)), (.int (111 : Int32)), (.int (114 : Int32)), (.int (103 : Int32)), (.int (47 : Int32)), (.int (67 : Int32)), (.int (79 : Int32)), (.int (82 : Int32)), (.int (66 : Int32)), (.int (0 : Int32)), (.int (0 : Int32)), (.int (0 : Int32)), (.int (0 : Int32)), (.int (0 : Int32)), (.int (0 : Int32)), (.int (0 : Int32)), (.int (0 : Int32)), (.int (0 : Int32)), (.int (0 : Int32)), (.int (0 : Int32)), (.int (0 : Int32))] (.int (0 : Int32)) := Arv.set Ar133 q133 S133 M133 Hh133 G133 (fits_nar_char _) W133 15 rfl (Nat.le_of_ble_eq_true rfl)
  have K133 : Keep h131 h133 [ar] := Keep.of_wr W133
  have KH134 : Keep h0 h133 [] := KH132.trans K133 (allS (Or.inr sz_ar) all0)
  have N133 := Fr.snoc X133 N131 g_ar
  obtain ⟨cl135, Ar135, q135, S135, M135, Hh135, G135⟩ := id V_ar_133
  obtain ⟨T135, h135, X135, e135, W135, st135⟩ := stC X133 hx hZ e133 Ar135 (j := (16 : Int32)) (inb_of S135 ⟨by decide, by decide⟩) (g := (mkF m 99 #[] [(.int (65 : Int32)), (.int (16 : Int32)), (.ref ar), (.ref ar)])) rfl rfl (hb hby dobj_99)
  have V_ar_135 : Arv Z h135 ar k101 .char (28 : Int32) [(.int (73 : Int32)), (.int (68 : Int32)), (.int (76 : Int32)), (.int (58 : Int32)), (.int (111 : Int32)), (.int (109 : Int32)), (.int (103 : Int32)), (.int (46 : Int32)), (.int (111 : Int32)), (.int (114 : Int32)), (.int (103 : Int32)), (.int (47 : Int32)), (.int (67 : Int32)), (.int (79 : Int32)), (.int (82 : Int32)), (.int (66 : Int32)), (.int (65 : Int32)), (.int (0 : Int32)), (.int (0 : Int32)), (.int (0 : Int32)), (.int (0 : Int32)), (.int (0 : Int32)), (.int (0 : Int32)), (.int (0 : Int32)), (.int (0 : Int32)), (.int (0 : Int32)), (.int (0 : Int32)), (.int (0 : Int32))] (.int (0 : Int32)) := Arv.set Ar135 q135 S135 M135 Hh135 G135 (fits_nar_char _) W135 16 rfl (Nat.le_of_ble_eq_true rfl)
  have K135 : Keep h133 h135 [ar] := Keep.of_wr W135
  have KH136 : Keep h0 h135 [] := KH134.trans K135 (allS (Or.inr sz_ar) all0)
  have N135 := Fr.snoc X135 N133 g_ar
  obtain ⟨cl137, Ar137, q137, S137, M137, Hh137, G137⟩ := id V_ar_135
  obtain ⟨T137, h137, X137, e137, W137, st137⟩ := stC X135 hx hZ e135 Ar137 (j := (17 : Int32)) (inb_of S137 ⟨by decide, by decide⟩) (g := (mkF m 105 #[] [(.int (47 : Int32)), (.int (17 : Int32)), (.ref ar), (.ref ar)])) rfl rfl (hb hby dobj_105)
  have V_ar_137 : Arv Z h137 ar k101 .char (28 : Int32) [(.int (73 : Int32)), (.int (68 : Int32)), (.int (76 : Int32)), (.int (58 : Int32)), (.int (111 : Int32)), (.int (109 : Int32)), (.int (103 : Int32)), (.int (46 : Int32)), (.int (111 : Int32)), (.int (114 : Int32)), (.int (103 : Int32)), (.int (47 : Int32)), (.int (67 : Int32)), (.int (79 : Int32)), (.int (82 : Int32)), (.int (66 : Int32)), (.int (65 : Int32)), (.int (47 : Int32)), (.int (0 : Int32)), (.int (0 : Int32)), (.int (0 : Int32)), (.int (0 : Int32)), (.int (0 : Int32)), (.int (0 : Int32)), (.int (0 : Int32)), (.int (0 : Int32)), (.int (0 : Int32)), (.int (0 : Int32))] (.int (0 : Int32)) := Arv.set Ar137 q137 S137 M137 Hh137 G137 (fits_nar_char _) W137 17 rfl (Nat.le_of_ble_eq_true rfl)
  have K137 : Keep h135 h137 [ar] := Keep.of_wr W137
  have KH138 : Keep h0 h137 [] := KH136.trans K137 (allS (Or.inr sz_ar) all0)
  have N137 := Fr.snoc X137 N135 g_ar
  obtain ⟨cl139, Ar139, q139, S139, M139, Hh139, G139⟩ := id V_ar_137
  obtain ⟨T139, h139, X139, e139, W139, st139⟩ := stC X137 hx hZ e137 Ar139 (j := (18 : Int32)) (inb_of S139 ⟨by decide, by decide⟩) (g := (mkF m 111 #[] [(.int (79 : Int32)), (.int (18 : Int32)), (.ref ar), (.ref ar)])) rfl rfl (hb hby dobj_111)
  have V_ar_139 : Arv Z h139 ar k101 .char (28 : Int32) [(.int (73 : Int32)), (.int (68 : Int32)), (.int (76 : Int32)), (.int (58 : Int32)), (.int (111 : Int32)), (.int (109 : Int32)), (.int (103 : Int32)), (.int (46 : Int32)), (.int (111 : Int32)), (.int (114 : Int32)), (.int (103 : Int32)), (.int (47 : Int32)), (.int (67 : Int32)), (.int (79 : Int32)), (.int (82 : Int32)), (.int (66 : Int32)), (.int (65 : Int32)), (.int (47 : Int32)), (.int (79 : Int32)), (.int (0 : Int32)), (.int (0 : Int32)), (.int (0 : Int32)), (.int (0 : Int32)), (.int (0 : Int32)), (.int (0 : Int32)), (.int (0 : Int32)), (.int (0 : Int32)), (.int (0 : Int32))] (.int (0 : Int32)) := Arv.set Ar139 q139 S139 M139 Hh139 G139 (fits_nar_char _) W139 18 rfl (Nat.le_of_ble_eq_true rfl)
  have K139 : Keep h137 h139 [ar] := Keep.of_wr W139
  have KH140 : Keep h0 h139 [] := KH138.trans K139 (allS (Or.inr sz_ar) all0)
  have N139 := Fr.snoc X139 N137 g_ar
  obtain ⟨cl141, Ar141, q141, S141, M141, Hh141, G141⟩ := id V_ar_139
  obtain ⟨T141, h141, X141, e141, W141, st141⟩ := stC X139 hx hZ e139 Ar141 (j := (19 : Int32)) (inb_of S141 ⟨by decide, by decide⟩) (g := (mkF m 117 #[] [(.int (98 : Int32)), (.int (19 : Int32)), (.ref ar), (.ref ar)])) rfl rfl (hb hby dobj_117)
  have V_ar_141 : Arv Z h141 ar k101 .char (28 : Int32) [(.int (73 : Int32)), (.int (68 : Int32)), (.int (76 : Int32)), (.int (58 : Int32)), (.int (111 : Int32)), (.int (109 : Int32)), (.int (103 : Int32)), (.int (46 : Int32)), (.int (111 : Int32)), (.int (114 : Int32)), (.int (103 : Int32)), (.int (47 : Int32)), (.int (67 : Int32)), (.int (79 : Int32)), (.int (82 : Int32)), (.int (66 : Int32)), (.int (65 : Int32)), (.int (47 : Int32)), (.int (79 : Int32)), (.int (98 : Int32)), (.int (0 : Int32)), (.int (0 : Int32)), (.int (0 : Int32)), (.int (0 : Int32)), (.int (0 : Int32)), (.int (0 : Int32)), (.int (0 : Int32)), (.int (0 : Int32))] (.int (0 : Int32)) := Arv.set Ar141 q141 S141 M141 Hh141 G141 (fits_nar_char _) W141 19 rfl (Nat.le_of_ble_eq_true rfl)
  have K141 : Keep h139 h141 [ar] := Keep.of_wr W141
  have KH142 : Keep h0 h141 [] := KH140.trans K141 (allS (Or.inr sz_ar) all0)
  have N141 := Fr.snoc X141 N139 g_ar
  obtain ⟨cl143, Ar143, q143, S143, M143, Hh143, G143⟩ := id V_ar_141
  obtain ⟨T143, h143, X143, e143, W143, st143⟩ := stC X141 hx hZ e141 Ar143 (j := (20 : Int32)) (inb_of S143 ⟨by decide, by decide⟩) (g := (mkF m 123 #[] [(.int (106 : Int32)), (.int (20 : Int32)), (.ref ar), (.ref ar)])) rfl rfl (hb hby dobj_123)
  have V_ar_143 : Arv Z h143 ar k101 .char (28 : Int32) [(.int (73 : Int32)), (.int (68 : Int32)), (.int (76 : Int32)), (.int (58 : Int32)), (.int (111 : Int32)), (.int (109 : Int32)), (.int (103 : Int32)), (.int (46 : Int32)), (.int (111 : Int32)), (.int (114 : Int32)), (.int (103 : Int32)), (.int (47 : Int32)), (.int (67 : Int32)), (.int (79 : Int32)), (.int (82 : Int32)), (.int (66 : Int32)), (.int (65 : Int32)), (.int (47 : Int32)), (.int (79 : Int32)), (.int (98 : Int32)), (.int (106 : Int32)), (.int (0 : Int32)), (.int (0 : Int32)), (.int (0 : Int32)), (.int (0 : Int32)), (.int (0 : Int32)), (.int (0 : Int32)), (.int (0 : Int32))] (.int (0 : Int32)) := Arv.set Ar143 q143 S143 M143 Hh143 G143 (fits_nar_char _) W143 20 rfl (Nat.le_of_ble_eq_true rfl)
  have K143 : Keep h141 h143 [ar] := Keep.of_wr W143
  have KH144 : Keep h0 h143 [] := KH142.trans K143 (allS (Or.inr sz_ar) all0)
  have N143 := Fr.snoc X143 N141 g_ar
  obtain ⟨cl145, Ar145, q145, S145, M145, Hh145, G145⟩ := id V_ar_143
  obtain ⟨T145, h145, X145, e145, W145, st145⟩ := stC X143 hx hZ e143 Ar145 (j := (21 : Int32)) (inb_of S145 ⟨by decide, by decide⟩) (g := (mkF m 129 #[] [(.int (101 : Int32)), (.int (21 : Int32)), (.ref ar), (.ref ar)])) rfl rfl (hb hby dobj_129)
  have V_ar_145 : Arv Z h145 ar k101 .char (28 : Int32) [(.int (73 : Int32)), (.int (68 : Int32)), (.int (76 : Int32)), (.int (58 : Int32)), (.int (111 : Int32)), (.int (109 : Int32)), (.int (103 : Int32)), (.int (46 : Int32)), (.int (111 : Int32)), (.int (114 : Int32)), (.int (103 : Int32)), (.int (47 : Int32)), (.int (67 : Int32)), (.int (79 : Int32)), (.int (82 : Int32)), (.int (66 : Int32)), (.int (65 : Int32)), (.int (47 : Int32)), (.int (79 : Int32)), (.int (98 : Int32)), (.int (106 : Int32)), (.int (101 : Int32)), (.int (0 : Int32)), (.int (0 : Int32)), (.int (0 : Int32)), (.int (0 : Int32)), (.int (0 : Int32)), (.int (0 : Int32))] (.int (0 : Int32)) := Arv.set Ar145 q145 S145 M145 Hh145 G145 (fits_nar_char _) W145 21 rfl (Nat.le_of_ble_eq_true rfl)
  have K145 : Keep h143 h145 [ar] := Keep.of_wr W145
  have KH146 : Keep h0 h145 [] := KH144.trans K145 (allS (Or.inr sz_ar) all0)
  have N145 := Fr.snoc X145 N143 g_ar
  obtain ⟨cl147, Ar147, q147, S147, M147, Hh147, G147⟩ := id V_ar_145
  obtain ⟨T147, h147, X147, e147, W147, st147⟩ := stC X145 hx hZ e145 Ar147 (j := (22 : Int32)) (inb_of S147 ⟨by decide, by decide⟩) (g := (mkF m 135 #[] [(.int (99 : Int32)), (.int (22 : Int32)), (.ref ar), (.ref ar)])) rfl rfl (hb hby dobj_135)
  have V_ar_147 : Arv Z h147 ar k101 .char (28 : Int32) [(.int (73 : Int32)), (.int (68 : Int32)), (.int (76 : Int32)), (.int (58 : Int32)), (.int (111 : Int32)), (.int (109 : Int32)), (.int (103 : Int32)), (.int (46 : Int32)), (.int (111 : Int32)), (.int (114 : Int32)), (.int (103 : Int32)), (.int (47 : Int32)), (.int (67 : Int32)), (.int (79 : Int32)), (.int (82 : Int32)), (.int (66 : Int32)), (.int (65 : Int32)), (.int (47 : Int32)), (.int (79 : Int32)), (.int (98 : Int32)), (.int (106 : Int32)), (.int (101 : Int32)), (.int (99 : Int32)), (.int (0 : Int32)), (.int (0 : Int32)), (.int (0 : Int32)), (.int (0 : Int32)), (.int (0 : Int32))] (.int (0 : Int32)) := Arv.set Ar147 q147 S147 M147 Hh147 G147 (fits_nar_char _) W147 22 rfl (Nat.le_of_ble_eq_true rfl)
  have K147 : Keep h145 h147 [ar] := Keep.of_wr W147
  have KH148 : Keep h0 h147 [] := KH146.trans K147 (allS (Or.inr sz_ar) all0)
  have N147 := Fr.snoc X147 N145 g_ar
  obtain ⟨cl149, Ar149, q149, S149, M149, Hh149, G149⟩ := id V_ar_147
  obtain ⟨T149, h149, X149, e149, W149, st149⟩ := stC X147 hx hZ e147 Ar149 (j := (23 : Int32)) (inb_of S149 ⟨by decide, by decide⟩) (g := (mkF m 141 #[] [(.int (116 : Int32)), (.int (23 : Int32)), (.ref ar), (.ref ar)])) rfl rfl (hb hby dobj_141)
  have V_ar_149 : Arv Z h149 ar k101 .char (28 : Int32) [(.int (73 : Int32)), (.int (68 : Int32)), (.int (76 : Int32)), (.int (58 : Int32)), (.int (111 : Int32)), (.int (109 : Int32)), (.int (103 : Int32)), (.int (46 : Int32)), (.int (111 : Int32)), (.int (114 : Int32)), (.int (103 : Int32)), (.int (47 : Int32)), (.int (67 : Int32)), (.int (79 : Int32)), (.int (82 : Int32)), (.int (66 : Int32)), (.int (65 : Int32)), (.int (47 : Int32)), (.int (79 : Int32)), (.int (98 : Int32)), (.int (106 : Int32)), (.int (101 : Int32)), (.int (99 : Int32)), (.int (116 : Int32)), (.int (0 : Int32)), (.int (0 : Int32)), (.int (0 : Int32)), (.int (0 : Int32))] (.int (0 : Int32)) := Arv.set Ar149 q149 S149 M149 Hh149 G149 (fits_nar_char _) W149 23 rfl (Nat.le_of_ble_eq_true rfl)
  have K149 : Keep h147 h149 [ar] := Keep.of_wr W149
  have KH150 : Keep h0 h149 [] := KH148.trans K149 (allS (Or.inr sz_ar) all0)
  have N149 := Fr.snoc X149 N147 g_ar
  obtain ⟨cl151, Ar151, q151, S151, M151, Hh151, G151⟩ := id V_ar_149
  obtain ⟨T151, h151, X151, e151, W151, st151⟩ := stC X149 hx hZ e149 Ar151 (j := (24 : Int32)) (inb_of S151 ⟨by decide, by decide⟩) (g := (mkF m 147 #[] [(.int (58 : Int32)), (.int (24 : Int32)), (.ref ar), (.ref ar)])) rfl rfl (hb hby dobj_147)
  have V_ar_151 : Arv Z h151 ar k101 .char (28 : Int32) [(.int (73 : Int32)), (.int (68 : Int32)), (.int (76 : Int32)), (.int (58 : Int32)), (.int (111 : Int32)), (.int (109 : Int32)), (.int (103 : Int32)), (.int (46 : Int32)), (.int (111 : Int32)), (.int (114 : Int32)), (.int (103 : Int32)), (.int (47 : Int32)), (.int (67 : Int32)), (.int (79 : Int32)), (.int (82 : Int32)), (.int (66 : Int32)), (.int (65 : Int32)), (.int (47 : Int32)), (.int (79 : Int32)), (.int (98 : Int32)), (.int (106 : Int32)), (.int (101 : Int32)), (.int (99 : Int32)), (.int (116 : Int32)), (.int (58 : Int32)), (.int (0 : Int32)), (.int (0 : Int32)), (.int (0 : Int32))] (.int (0 : Int32)) := Arv.set Ar151 q151 S151 M151 Hh151 G151 (fits_nar_char _) W151 24 rfl (Nat.le_of_ble_eq_true rfl)
  have K151 : Keep h149 h151 [ar] := Keep.of_wr W151
  have KH152 : Keep h0 h151 [] := KH150.trans K151 (allS (Or.inr sz_ar) all0)
  have N151 := Fr.snoc X151 N149 g_ar
  obtain ⟨cl153, Ar153, q153, S153, M153, Hh153, G153⟩ := id V_ar_151
  obtain ⟨T153, h153, X153, e153, W153, st153⟩ := stC X151 hx hZ e151 Ar153 (j := (25 : Int32)) (inb_of S153 ⟨by decide, by decide⟩) (g := (mkF m 153 #[] [(.int (49 : Int32)), (.int (25 : Int32)), (.ref ar), (.ref ar)])) rfl rfl (hb hby dobj_153)
  have V_ar_153 : Arv Z h153 ar k101 .char (28 : Int32) [(.int (73 : Int32)), (.int (68 : Int32)), (.int (76 : Int32)), (.int (58 : Int32)), (.int (111 : Int32)), (.int (109 : Int32)), (.int (103 : Int32)), (.int (46 : Int32)), (.int (111 : Int32)), (.int (114 : Int32)), (.int (103 : Int32)), (.int (47 : Int32)), (.int (67 : Int32)), (.int (79 : Int32)), (.int (82 : Int32)), (.int (66 : Int32)), (.int (65 : Int32)), (.int (47 : Int32)), (.int (79 : Int32)), (.int (98 : Int32)), (.int (106 : Int32)), (.int (101 : Int32)), (.int (99 : Int32)), (.int (116 : Int32)), (.int (58 : Int32)), (.int (49 : Int32)), (.int (0 : Int32)), (.int (0 : Int32))] (.int (0 : Int32)) := Arv.set Ar153 q153 S153 M153 Hh153 G153 (fits_nar_char _) W153 25 rfl (Nat.le_of_ble_eq_true rfl)
  have K153 : Keep h151 h153 [ar] := Keep.of_wr W153
  have KH154 : Keep h0 h153 [] := KH152.trans K153 (allS (Or.inr sz_ar) all0)
  have N153 := Fr.snoc X153 N151 g_ar
  obtain ⟨cl155, Ar155, q155, S155, M155, Hh155, G155⟩ := id V_ar_153
  obtain ⟨T155, h155, X155, e155, W155, st155⟩ := stC X153 hx hZ e153 Ar155 (j := (26 : Int32)) (inb_of S155 ⟨by decide, by decide⟩) (g := (mkF m 159 #[] [(.int (46 : Int32)), (.int (26 : Int32)), (.ref ar), (.ref ar)])) rfl rfl (hb hby dobj_159)
  have V_ar_155 : Arv Z h155 ar k101 .char (28 : Int32) [(.int (73 : Int32)), (.int (68 : Int32)), (.int (76 : Int32)), (.int (58 : Int32)), (.int (111 : Int32)), (.int (109 : Int32)), (.int (103 : Int32)), (.int (46 : Int32)), (.int (111 : Int32)), (.int (114 : Int32)), (.int (103 : Int32)), (.int (47 : Int32)), (.int (67 : Int32)), (.int (79 : Int32)), (.int (82 : Int32)), (.int (66 : Int32)), (.int (65 : Int32)), (.int (47 : Int32)), (.int (79 : Int32)), (.int (98 : Int32)), (.int (106 : Int32)), (.int (101 : Int32)), (.int (99 : Int32)), (.int (116 : Int32)), (.int (58 : Int32)), (.int (49 : Int32)), (.int (46 : Int32)), (.int (0 : Int32))] (.int (0 : Int32)) := Arv.set Ar155 q155 S155 M155 Hh155 G155 (fits_nar_char _) W155 26 rfl (Nat.le_of_ble_eq_true rfl)
  have K155 : Keep h153 h155 [ar] := Keep.of_wr W155
  have KH156 : Keep h0 h155 [] := KH154.trans K155 (allS (Or.inr sz_ar) all0)
  have N155 := Fr.snoc X155 N153 g_ar
  obtain ⟨cl157, Ar157, q157, S157, M157, Hh157, G157⟩ := id V_ar_155
  obtain ⟨T157, h157, X157, e157, W157, st157⟩ := stC X155 hx hZ e155 Ar157 (j := (27 : Int32)) (inb_of S157 ⟨by decide, by decide⟩) (g := (mkF m 165 #[] [(.int (48 : Int32)), (.int (27 : Int32)), (.ref ar), (.ref ar)])) rfl rfl (hb hby dobj_165)
  have V_ar_157 : Arv Z h157 ar k101 .char (28 : Int32) [(.int (73 : Int32)), (.int (68 : Int32)), (.int (76 : Int32)), (.int (58 : Int32)), (.int (111 : Int32)), (.int (109 : Int32)), (.int (103 : Int32)), (.int (46 : Int32)), (.int (111 : Int32)), (.int (114 : Int32)), (.int (103 : Int32)), (.int (47 : Int32)), (.int (67 : Int32)), (.int (79 : Int32)), (.int (82 : Int32)), (.int (66 : Int32)), (.int (65 : Int32)), (.int (47 : Int32)), (.int (79 : Int32)), (.int (98 : Int32)), (.int (106 : Int32)), (.int (101 : Int32)), (.int (99 : Int32)), (.int (116 : Int32)), (.int (58 : Int32)), (.int (49 : Int32)), (.int (46 : Int32)), (.int (48 : Int32))] (.int (0 : Int32)) := Arv.set Ar157 q157 S157 M157 Hh157 G157 (fits_nar_char _) W157 27 rfl (Nat.le_of_ble_eq_true rfl)
  have K157 : Keep h155 h157 [ar] := Keep.of_wr W157
  have KH158 : Keep h0 h157 [] := KH156.trans K157 (allS (Or.inr sz_ar) all0)
  have N157 := Fr.snoc X157 N155 g_ar
  obtain ⟨fs, hr, hrun, hended, hW, hsame⟩ := X157.leave (v := some (.ref ar)) (fun h => by rw [Bd.returns] at h; cases h)
  refine ⟨_, _, go0 _ ?_, hrun, hended, _, _, rfl, ?_, ⟨_, rfl⟩, hW, hsame.mono (by decide) (by decide)⟩
  · show Steps p.tables e below (s₁.setTop (mkF m 0 #[] [])) _
    refine XS.bipush X0.here hx rfl (hb hby dobj_0) ?_
    show Steps p.tables e below (s₁.setTop (mkF m 2 #[] [(.int (28 : Int32))])) _
    refine st101 _ ?_
    show Steps p.tables e below (T101.setTop (mkF m 4 #[] [(.ref ar)])) _
    refine XS.dup X101.here hx rfl (hb hby dobj_4) rfl rfl ?_
    show Steps p.tables e below (T101.setTop (mkF m 5 #[] [(.ref ar), (.ref ar)])) _
    refine XS.iconst X101.here hx rfl (hb hby dobj_5) ?_
    show Steps p.tables e below (T101.setTop (mkF m 6 #[] [(.int (0 : Int32)), (.ref ar), (.ref ar)])) _
    refine XS.bipush X101.here hx rfl (hb hby dobj_6) ?_
    show Steps p.tables e below (T101.setTop (mkF m 8 #[] [(.int (73 : Int32)), (.int (0 : Int32)), (.ref ar), (.ref ar)])) _
    refine st103 _ ?_
    show Steps p.tables e below (T103.setTop (mkF m 9 #[] [(.ref ar)])) _
    refine XS.dup X103.here hx rfl (hb hby dobj_9) rfl rfl ?_
    show Steps p.tables e below (T103.setTop (mkF m 10 #[] [(.ref ar), (.ref ar)])) _
    refine XS.iconst X103.here hx rfl (hb hby dobj_10) ?_
    show Steps p.tables e below (T103.setTop (mkF m 11 #[] [(.int (1 : Int32)), (.ref ar), (.ref ar)])) _
    refine XS.bipush X103.here hx rfl (hb hby dobj_11) ?_
    show Steps p.tables e below (T103.setTop (mkF m 13 #[] [(.int (68 : Int32)), (.int (1 : Int32)), (.ref ar), (.ref ar)])) _
    refine st105 _ ?_
    show Steps p.tables e below (T105.setTop (mkF m 14 #[] [(.ref ar)])) _
    refine XS.dup X105.here hx rfl (hb hby dobj_14) rfl rfl ?_
    show Steps p.tables e below (T105.setTop (mkF m 15 #[] [(.ref ar), (.ref ar)])) _
    refine XS.iconst X105.here hx rfl (hb hby dobj_15) ?_
    show Steps p.tables e below (T105.setTop (mkF m 16 #[] [(.int (2 : Int32)), (.ref ar), (.ref ar)])) _
    refine XS.bipush X105.here hx rfl (hb hby dobj_16) ?_
    show Steps p.tables e below (T105.setTop (mkF m 18 #[] [(.int (76 : Int32)), (.int (2 : Int32)), (.ref ar), (.ref ar)])) _
    refine st107 _ ?_
    show Steps p.tables e below (T107.setTop (mkF m 19 #[] [(.ref ar)])) _
    refine XS.dup X107.here hx rfl (hb hby dobj_19) rfl rfl ?_
    show Steps p.tables e below (T107.setTop (mkF m 20 #[] [(.ref ar), (.ref ar)])) _
    refine XS.iconst X107.here hx rfl (hb hby dobj_20) ?_
    show Steps p.tables e below (T107.setTop (mkF m 21 #[] [(.int (3 : Int32)), (.ref ar), (.ref ar)])) _
    refine XS.bipush X107.here hx rfl (hb hby dobj_21) ?_
    show Steps p.tables e below (T107.setTop (mkF m 23 #[] [(.int (58 : Int32)), (.int (3 : Int32)), (.ref ar), (.ref ar)])) _
    refine st109 _ ?_
    show Steps p.tables e below (T109.setTop (mkF m 24 #[] [(.ref ar)])) _
    refine XS.dup X109.here hx rfl (hb hby dobj_24) rfl rfl ?_
    show Steps p.tables e below (T109.setTop (mkF m 25 #[] [(.ref ar), (.ref ar)])) _
    refine XS.iconst X109.here hx rfl (hb hby dobj_25) ?_
    show Steps p.tables e below (T109.setTop (mkF m 26 #[] [(.int (4 : Int32)), (.ref ar), (.ref ar)])) _
    refine XS.bipush X109.here hx rfl (hb hby dobj_26) ?_
    show Steps p.tables e below (T109.setTop (mkF m 28 #[] [(.int (111 : Int32)), (.int (4 : Int32)), (.ref ar), (.ref ar)])) _
    refine st111 _ ?_
    show Steps p.tables e below (T111.setTop (mkF m 29 #[] [(.ref ar)])) _
    refine XS.dup X111.here hx rfl (hb hby dobj_29) rfl rfl ?_
    show Steps p.tables e below (T111.setTop (mkF m 30 #[] [(.ref ar), (.ref ar)])) _
    refine XS.iconst X111.here hx rfl (hb hby dobj_30) ?_
    show Steps p.tables e below (T111.setTop (mkF m 31 #[] [(.int (5 : Int32)), (.ref ar), (.ref ar)])) _
    refine XS.bipush X111.here hx rfl (hb hby dobj_31) ?_
    show Steps p.tables e below (T111.setTop (mkF m 33 #[] [(.int (109 : Int32)), (.int (5 : Int32)), (.ref ar), (.ref ar)])) _
    refine st113 _ ?_
    show Steps p.tables e below (T113.setTop (mkF m 34 #[] [(.ref ar)])) _
    refine XS.dup X113.here hx rfl (hb hby dobj_34) rfl rfl ?_
    show Steps p.tables e below (T113.setTop (mkF m 35 #[] [(.ref ar), (.ref ar)])) _
    refine XS.bipush X113.here hx rfl (hb hby dobj_35) ?_
    show Steps p.tables e below (T113.setTop (mkF m 37 #[] [(.int (6 : Int32)), (.ref ar), (.ref ar)])) _
    refine XS.bipush X113.here hx rfl (hb hby dobj_37) ?_
    show Steps p.tables e below (T113.setTop (mkF m 39 #[] [(.int (103 : Int32)), (.int (6 : Int32)), (.ref ar), (.ref ar)])) _
    refine st115 _ ?_
    show Steps p.tables e below (T115.setTop (mkF m 40 #[] [(.ref ar)])) _
    refine XS.dup X115.here hx rfl (hb hby dobj_40) rfl rfl ?_
    show Steps p.tables e below (T115.setTop (mkF m 41 #[] [(.ref ar), (.ref ar)])) _
    refine XS.bipush X115.here hx rfl (hb hby dobj_41) ?_
    show Steps p.tables e below (T115.setTop (mkF m 43 #[] [(.int (7 : Int32)), (.ref ar), (.ref ar)])) _
    refine XS.bipush X115.here hx rfl (hb hby dobj_43) ?_
    show Steps p.tables e below (T115.setTop (mkF m 45 #[] [(.int (46 : Int32)), (.int (7 : Int32)), (.ref ar), (.ref ar)])) _
    refine st117 _ ?_
    show Steps p.tables e below (T117.setTop (mkF m 46 #[] [(.ref ar)])) _
    refine XS.dup X117.here hx rfl (hb hby dobj_46) rfl rfl ?_
    show Steps p.tables e below (T117.setTop (mkF m 47 #[] [(.ref ar), (.ref ar)])) _
    refine XS.bipush X117.here hx rfl (hb hby dobj_47) ?_
    show Steps p.tables e below (T117.setTop (mkF m 49 #[] [(.int (8 : Int32)), (.ref ar), (.ref ar)])) _
    refine XS.bipush X117.here hx rfl (hb hby dobj_49) ?_
    show Steps p.tables e below (T117.setTop (mkF m 51 #[] [(.int (111 : Int32)), (.int (8 : Int32)), (.ref ar), (.ref ar)])) _
    refine st119 _ ?_
    show Steps p.tables e below (T119.setTop (mkF m 52 #[] [(.ref ar)])) _
    refine XS.dup X119.here hx rfl (hb hby dobj_52) rfl rfl ?_
    show Steps p.tables e below (T119.setTop (mkF m 53 #[] [(.ref ar), (.ref ar)])) _
    refine XS.bipush X119.here hx rfl (hb hby dobj_53) ?_
    show Steps p.tables e below (T119.setTop (mkF m 55 #[] [(.int (9 : Int32)), (.ref ar), (.ref ar)])) _
    refine XS.bipush X119.here hx rfl (hb hby dobj_55) ?_
    show Steps p.tables e below (T119.setTop (mkF m 57 #[] [(.int (114 : Int32)), (.int (9 : Int32)), (.ref ar), (.ref ar)])) _
    refine st121 _ ?_
    show Steps p.tables e below (T121.setTop (mkF m 58 #[] [(.ref ar)])) _
    refine XS.dup X121.here hx rfl (hb hby dobj_58) rfl rfl ?_
    show Steps p.tables e below (T121.setTop (mkF m 59 #[] [(.ref ar), (.ref ar)])) _
    refine XS.bipush X121.here hx rfl (hb hby dobj_59) ?_
    show Steps p.tables e below (T121.setTop (mkF m 61 #[] [(.int (10 : Int32)), (.ref ar), (.ref ar)])) _
    refine XS.bipush X121.here hx rfl (hb hby dobj_61) ?_
    show Steps p.tables e below (T121.setTop (mkF m 63 #[] [(.int (103 : Int32)), (.int (10 : Int32)), (.ref ar), (.ref ar)])) _
    refine st123 _ ?_
    show Steps p.tables e below (T123.setTop (mkF m 64 #[] [(.ref ar)])) _
    refine XS.dup X123.here hx rfl (hb hby dobj_64) rfl rfl ?_
    show Steps p.tables e below (T123.setTop (mkF m 65 #[] [(.ref ar), (.ref ar)])) _
    refine XS.bipush X123.here hx rfl (hb hby dobj_65) ?_
    show Steps p.tables e below (T123.setTop (mkF m 67 #[] [(.int (11 : Int32)), (.ref ar), (.ref ar)])) _
    refine XS.bipush X123.here hx rfl (hb hby dobj_67) ?_
    show Steps p.tables e below (T123.setTop (mkF m 69 #[] [(.int (47 : Int32)), (.int (11 : Int32)), (.ref ar), (.ref ar)])) _
    refine st125 _ ?_
    show Steps p.tables e below (T125.setTop (mkF m 70 #[] [(.ref ar)])) _
    refine XS.dup X125.here hx rfl (hb hby dobj_70) rfl rfl ?_
    show Steps p.tables e below (T125.setTop (mkF m 71 #[] [(.ref ar), (.ref ar)])) _
    refine XS.bipush X125.here hx rfl (hb hby dobj_71) ?_
    show Steps p.tables e below (T125.setTop (mkF m 73 #[] [(.int (12 : Int32)), (.ref ar), (.ref ar)])) _
    refine XS.bipush X125.here hx rfl (hb hby dobj_73) ?_
    show Steps p.tables e below (T125.setTop (mkF m 75 #[] [(.int (67 : Int32)), (.int (12 : Int32)), (.ref ar), (.ref ar)])) _
    refine st127 _ ?_
    show Steps p.tables e below (T127.setTop (mkF m 76 #[] [(.ref ar)])) _
    refine XS.dup X127.here hx rfl (hb hby dobj_76) rfl rfl ?_
    show Steps p.tables e below (T127.setTop (mkF m 77 #[] [(.ref ar), (.ref ar)])) _
    refine XS.bipush X127.here hx rfl (hb hby dobj_77) ?_
    show Steps p.tables e below (T127.setTop (mkF m 79 #[] [(.int (13 : Int32)), (.ref ar), (.ref ar)])) _
    refine XS.bipush X127.here hx rfl (hb hby dobj_79) ?_
    show Steps p.tables e below (T127.setTop (mkF m 81 #[] [(.int (79 : Int32)), (.int (13 : Int32)), (.ref ar), (.ref ar)])) _
    refine st129 _ ?_
    show Steps p.tables e below (T129.setTop (mkF m 82 #[] [(.ref ar)])) _
    refine XS.dup X129.here hx rfl (hb hby dobj_82) rfl rfl ?_
    show Steps p.tables e below (T129.setTop (mkF m 83 #[] [(.ref ar), (.ref ar)])) _
    refine XS.bipush X129.here hx rfl (hb hby dobj_83) ?_
    show Steps p.tables e below (T129.setTop (mkF m 85 #[] [(.int (14 : Int32)), (.ref ar), (.ref ar)])) _
    refine XS.bipush X129.here hx rfl (hb hby dobj_85) ?_
    show Steps p.tables e below (T129.setTop (mkF m 87 #[] [(.int (82 : Int32)), (.int (14 : Int32)), (.ref ar), (.ref ar)])) _
    refine st131 _ ?_
    show Steps p.tables e below (T131.setTop (mkF m 88 #[] [(.ref ar)])) _
    refine XS.dup X131.here hx rfl (hb hby dobj_88) rfl rfl ?_
    show Steps p.tables e below (T131.setTop (mkF m 89 #[] [(.ref ar), (.ref ar)])) _
    refine XS.bipush X131.here hx rfl (hb hby dobj_89) ?_
    show Steps p.tables e below (T131.setTop (mkF m 91 #[] [(.int (15 : Int32)), (.ref ar), (.ref ar)])) _
    refine XS.bipush X131.here hx rfl (hb hby dobj_91) ?_
    show Steps p.tables e below (T131.setTop (mkF m 93 #[] [(.int (66 : Int32)), (.int (15 : Int32)), (.ref ar), (.ref ar)])) _
    refine st133 _ ?_
    show Steps p.tables e below (T133.setTop (mkF m 94 #[] [(.ref ar)])) _
    refine XS.dup X133.here hx rfl (hb hby dobj_94) rfl rfl ?_
    show Steps p.tables e below (T133.setTop (mkF m 95 #[] [(.ref ar), (.ref ar)])) _
    refine XS.bipush X133.here hx rfl (hb hby dobj_95) ?_
    show Steps p.tables e below (T133.setTop (mkF m 97 #[] [(.int (16 : Int32)), (.ref ar), (.ref ar)])) _
    refine XS.bipush X133.here hx rfl (hb hby dobj_97) ?_
    show Steps p.tables e below (T133.setTop (mkF m 99 #[] [(.int (65 : Int32)), (.int (16 : Int32)), (.ref ar), (.ref ar)])) _
    refine st135 _ ?_
    show Steps p.tables e below (T135.setTop (mkF m 100 #[] [(.ref ar)])) _
    refine XS.dup X135.here hx rfl (hb hby dobj_100) rfl rfl ?_
    show Steps p.tables e below (T135.setTop (mkF m 101 #[] [(.ref ar), (.ref ar)])) _
    refine XS.bipush X135.here hx rfl (hb hby dobj_101) ?_
    show Steps p.tables e below (T135.setTop (mkF m 103 #[] [(.int (17 : Int32)), (.ref ar), (.ref ar)])) _
    refine XS.bipush X135.here hx rfl (hb hby dobj_103) ?_
    show Steps p.tables e below (T135.setTop (mkF m 105 #[] [(.int (47 : Int32)), (.int (17 : Int32)), (.ref ar), (.ref ar)])) _
    refine st137 _ ?_
    show Steps p.tables e below (T137.setTop (mkF m 106 #[] [(.ref ar)])) _
    refine XS.dup X137.here hx rfl (hb hby dobj_106) rfl rfl ?_
    show Steps p.tables e below (T137.setTop (mkF m 107 #[] [(.ref ar), (.ref ar)])) _
    refine XS.bipush X137.here hx rfl (hb hby dobj_107) ?_
    show Steps p.tables e below (T137.setTop (mkF m 109 #[] [(.int (18 : Int32)), (.ref ar), (.ref ar)])) _
    refine XS.bipush X137.here hx rfl (hb hby dobj_109) ?_
    show Steps p.tables e below (T137.setTop (mkF m 111 #[] [(.int (79 : Int32)), (.int (18 : Int32)), (.ref ar), (.ref ar)])) _
    refine st139 _ ?_
    show Steps p.tables e below (T139.setTop (mkF m 112 #[] [(.ref ar)])) _
    refine XS.dup X139.here hx rfl (hb hby dobj_112) rfl rfl ?_
    show Steps p.tables e below (T139.setTop (mkF m 113 #[] [(.ref ar), (.ref ar)])) _
    refine XS.bipush X139.here hx rfl (hb hby dobj_113) ?_
    show Steps p.tables e below (T139.setTop (mkF m 115 #[] [(.int (19 : Int32)), (.ref ar), (.ref ar)])) _
    refine XS.bipush X139.here hx rfl (hb hby dobj_115) ?_
    show Steps p.tables e below (T139.setTop (mkF m 117 #[] [(.int (98 : Int32)), (.int (19 : Int32)), (.ref ar), (.ref ar)])) _
    refine st141 _ ?_
    show Steps p.tables e below (T141.setTop (mkF m 118 #[] [(.ref ar)])) _
    refine XS.dup X141.here hx rfl (hb hby dobj_118) rfl rfl ?_
    show Steps p.tables e below (T141.setTop (mkF m 119 #[] [(.ref ar), (.ref ar)])) _
    refine XS.bipush X141.here hx rfl (hb hby dobj_119) ?_
    show Steps p.tables e below (T141.setTop (mkF m 121 #[] [(.int (20 : Int32)), (.ref ar), (.ref ar)])) _
    refine XS.bipush X141.here hx rfl (hb hby dobj_121) ?_
    show Steps p.tables e below (T141.setTop (mkF m 123 #[] [(.int (106 : Int32)), (.int (20 : Int32)), (.ref ar), (.ref ar)])) _
    refine st143 _ ?_
    show Steps p.tables e below (T143.setTop (mkF m 124 #[] [(.ref ar)])) _
    refine XS.dup X143.here hx rfl (hb hby dobj_124) rfl rfl ?_
    show Steps p.tables e below (T143.setTop (mkF m 125 #[] [(.ref ar), (.ref ar)])) _
    refine XS.bipush X143.here hx rfl (hb hby dobj_125) ?_
    show Steps p.tables e below (T143.setTop (mkF m 127 #[] [(.int (21 : Int32)), (.ref ar), (.ref ar)])) _
    refine XS.bipush X143.here hx rfl (hb hby dobj_127) ?_
    show Steps p.tables e below (T143.setTop (mkF m 129 #[] [(.int (101 : Int32)), (.int (21 : Int32)), (.ref ar), (.ref ar)])) _
    refine st145 _ ?_
    show Steps p.tables e below (T145.setTop (mkF m 130 #[] [(.ref ar)])) _
    refine XS.dup X145.here hx rfl (hb hby dobj_130) rfl rfl ?_
    show Steps p.tables e below (T145.setTop (mkF m 131 #[] [(.ref ar), (.ref ar)])) _
    refine XS.bipush X145.here hx rfl (hb hby dobj_131) ?_
    show Steps p.tables e below (T145.setTop (mkF m 133 #[] [(.int (22 : Int32)), (.ref ar), (.ref ar)])) _
    refine XS.bipush X145.here hx rfl (hb hby dobj_133) ?_
    show Steps p.tables e below (T145.setTop (mkF m 135 #[] [(.int (99 : Int32)), (.int (22 : Int32)), (.ref ar), (.ref ar)])) _
    refine st147 _ ?_
    show Steps p.tables e below (T147.setTop (mkF m 136 #[] [(.ref ar)])) _
    refine XS.dup X147.here hx rfl (hb hby dobj_136) rfl rfl ?_
    show Steps p.tables e below (T147.setTop (mkF m 137 #[] [(.ref ar), (.ref ar)])) _
    refine XS.bipush X147.here hx rfl (hb hby dobj_137) ?_
    show Steps p.tables e below (T147.setTop (mkF m 139 #[] [(.int (23 : Int32)), (.ref ar), (.ref ar)])) _
    refine XS.bipush X147.here hx rfl (hb hby dobj_139) ?_
    show Steps p.tables e below (T147.setTop (mkF m 141 #[] [(.int (116 : Int32)), (.int (23 : Int32)), (.ref ar), (.ref ar)])) _
    refine st149 _ ?_
    show Steps p.tables e below (T149.setTop (mkF m 142 #[] [(.ref ar)])) _
    refine XS.dup X149.here hx rfl (hb hby dobj_142) rfl rfl ?_
    show Steps p.tables e below (T149.setTop (mkF m 143 #[] [(.ref ar), (.ref ar)])) _
    refine XS.bipush X149.here hx rfl (hb hby dobj_143) ?_
    show Steps p.tables e below (T149.setTop (mkF m 145 #[] [(.int (24 : Int32)), (.ref ar), (.ref ar)])) _
    refine XS.bipush X149.here hx rfl (hb hby dobj_145) ?_
    show Steps p.tables e below (T149.setTop (mkF m 147 #[] [(.int (58 : Int32)), (.int (24 : Int32)), (.ref ar), (.ref ar)])) _
    refine st151 _ ?_
    show Steps p.tables e below (T151.setTop (mkF m 148 #[] [(.ref ar)])) _
    refine XS.dup X151.here hx rfl (hb hby dobj_148) rfl rfl ?_
    show Steps p.tables e below (T151.setTop (mkF m 149 #[] [(.ref ar), (.ref ar)])) _
    refine XS.bipush X151.here hx rfl (hb hby dobj_149) ?_
    show Steps p.tables e below (T151.setTop (mkF m 151 #[] [(.int (25 : Int32)), (.ref ar), (.ref ar)])) _
    refine XS.bipush X151.here hx rfl (hb hby dobj_151) ?_
    show Steps p.tables e below (T151.setTop (mkF m 153 #[] [(.int (49 : Int32)), (.int (25 : Int32)), (.ref ar), (.ref ar)])) _
    refine st153 _ ?_
    show Steps p.tables e below (T153.setTop (mkF m 154 #[] [(.ref ar)])) _
    refine XS.dup X153.here hx rfl (hb hby dobj_154) rfl rfl ?_
    show Steps p.tables e below (T153.setTop (mkF m 155 #[] [(.ref ar), (.ref ar)])) _
    refine XS.bipush X153.here hx rfl (hb hby dobj_155) ?_
    show Steps p.tables e below (T153.setTop (mkF m 157 #[] [(.int (26 : Int32)), (.ref ar), (.ref ar)])) _
    refine XS.bipush X153.here hx rfl (hb hby dobj_157) ?_
    show Steps p.tables e below (T153.setTop (mkF m 159 #[] [(.int (46 : Int32)), (.int (26 : Int32)), (.ref ar), (.ref ar)])) _
    refine st155 _ ?_
    show Steps p.tables e below (T155.setTop (mkF m 160 #[] [(.ref ar)])) _
    refine XS.dup X155.here hx rfl (hb hby dobj_160) rfl rfl ?_
    show Steps p.tables e below (T155.setTop (mkF m 161 #[] [(.ref ar), (.ref ar)])) _
    refine XS.bipush X155.here hx rfl (hb hby dobj_161) ?_
    show Steps p.tables e below (T155.setTop (mkF m 163 #[] [(.int (27 : Int32)), (.ref ar), (.ref ar)])) _
    refine XS.bipush X155.here hx rfl (hb hby dobj_163) ?_
    show Steps p.tables e below (T155.setTop (mkF m 165 #[] [(.int (48 : Int32)), (.int (27 : Int32)), (.ref ar), (.ref ar)])) _
    refine st157 _ ?_
    show Steps p.tables e below (T157.setTop (mkF m 166 #[] [(.ref ar)])) _
    jvm_step X157.here [X157.here.top, hx, (hb hby dobj_166), X157.method', Bd.returns, Value.isRef, FieldType.isReference]
    first | (intro acts; rw [hr _ acts rfl rfl rfl]) | rw [hr _ _ rfl rfl rfl]
    exact Steps.refl _
  · show QA Z (28 : Int32) own_L1 h0 n0 _ T157.heap _
    rw [e157]
    exact ⟨_, _, rfl, N157, KH158, g_ar, sz_ar, V_ar_157⟩
theorem dmgrPlus_0 : decode method_3_code 0 = .ok (.bipush 42, 2) := by decide +kernel
theorem dmgrPlus_2 : decode method_3_code 2 = .ok (.newarray .char, 2) := by decide +kernel
theorem dmgrPlus_4 : decode method_3_code 4 = .ok (.dup, 1) := by decide +kernel
theorem dmgrPlus_5 : decode method_3_code 5 = .ok (.iconst 0, 1) := by decide +kernel
theorem dmgrPlus_6 : decode method_3_code 6 = .ok (.bipush 73, 2) := by decide +kernel
theorem dmgrPlus_8 : decode method_3_code 8 = .ok (.castore, 1) := by decide +kernel
theorem dmgrPlus_9 : decode method_3_code 9 = .ok (.dup, 1) := by decide +kernel
theorem dmgrPlus_10 : decode method_3_code 10 = .ok (.iconst 1, 1) := by decide +kernel
theorem dmgrPlus_11 : decode method_3_code 11 = .ok (.bipush 68, 2) := by decide +kernel
theorem dmgrPlus_13 : decode method_3_code 13 = .ok (.castore, 1) := by decide +kernel
theorem dmgrPlus_14 : decode method_3_code 14 = .ok (.dup, 1) := by decide +kernel
theorem dmgrPlus_15 : decode method_3_code 15 = .ok (.iconst 2, 1) := by decide +kernel
theorem dmgrPlus_16 : decode method_3_code 16 = .ok (.bipush 76, 2) := by decide +kernel
theorem dmgrPlus_18 : decode method_3_code 18 = .ok (.castore, 1) := by decide +kernel
theorem dmgrPlus_19 : decode method_3_code 19 = .ok (.dup, 1) := by decide +kernel
theorem dmgrPlus_20 : decode method_3_code 20 = .ok (.iconst 3, 1) := by decide +kernel
theorem dmgrPlus_21 : decode method_3_code 21 = .ok (.bipush 58, 2) := by decide +kernel
theorem dmgrPlus_23 : decode method_3_code 23 = .ok (.castore, 1) := by decide +kernel
theorem dmgrPlus_24 : decode method_3_code 24 = .ok (.dup, 1) := by decide +kernel
theorem dmgrPlus_25 : decode method_3_code 25 = .ok (.iconst 4, 1) := by decide +kernel
theorem dmgrPlus_26 : decode method_3_code 26 = .ok (.bipush 111, 2) := by decide +kernel
theorem dmgrPlus_28 : decode method_3_code 28 = .ok (.castore, 1) := by decide +kernel
theorem dmgrPlus_29 : decode method_3_code 29 = .ok (.dup, 1) := by decide +kernel
theorem dmgrPlus_30 : decode method_3_code 30 = .ok (.iconst 5, 1) := by decide +kernel
theorem dmgrPlus_31 : decode method_3_code 31 = .ok (.bipush 109, 2) := by decide +kernel
theorem dmgrPlus_33 : decode method_3_code 33 = .ok (.castore, 1) := by decide +kernel
theorem dmgrPlus_34 : decode method_3_code 34 = .ok (.dup, 1) := by decide +kernel
theorem dmgrPlus_35 : decode method_3_code 35 = .ok (.bipush 6, 2) := by decide +kernel
theorem dmgrPlus_37 : decode method_3_code 37 = .ok (.bipush 103, 2) := by decide +kernel
theorem dmgrPlus_39 : decode method_3_code 39 = .ok (.castore, 1) := by decide +kernel
theorem dmgrPlus_40 : decode method_3_code 40 = .ok (.dup, 1) := by decide +kernel
theorem dmgrPlus_41 : decode method_3_code 41 = .ok (.bipush 7, 2) := by decide +kernel
theorem dmgrPlus_43 : decode method_3_code 43 = .ok (.bipush 46, 2) := by decide +kernel
theorem dmgrPlus_45 : decode method_3_code 45 = .ok (.castore, 1) := by decide +kernel
theorem dmgrPlus_46 : decode method_3_code 46 = .ok (.dup, 1) := by decide +kernel
theorem dmgrPlus_47 : decode method_3_code 47 = .ok (.bipush 8, 2) := by decide +kernel
theorem dmgrPlus_49 : decode method_3_code 49 = .ok (.bipush 111, 2) := by decide +kernel
theorem dmgrPlus_51 : decode method_3_code 51 = .ok (.castore, 1) := by decide +kernel
theorem dmgrPlus_52 : decode method_3_code 52 = .ok (.dup, 1) := by decide +kernel
theorem dmgrPlus_53 : decode method_3_code 53 = .ok (.bipush 9, 2) := by decide +kernel
theorem dmgrPlus_55 : decode method_3_code 55 = .ok (.bipush 114, 2) := by decide +kernel
theorem dmgrPlus_57 : decode method_3_code 57 = .ok (.castore, 1) := by decide +kernel
theorem dmgrPlus_58 : decode method_3_code 58 = .ok (.dup, 1) := by decide +kernel
theorem dmgrPlus_59 : decode method_3_code 59 = .ok (.bipush 10, 2) := by decide +kernel
theorem dmgrPlus_61 : decode method_3_code 61 = .ok (.bipush 103, 2) := by decide +kernel
theorem dmgrPlus_63 : decode method_3_code 63 = .ok (.castore, 1) := by decide +kernel
theorem dmgrPlus_64 : decode method_3_code 64 = .ok (.dup, 1) := by decide +kernel
theorem dmgrPlus_65 : decode method_3_code 65 = .ok (.bipush 11, 2) := by decide +kernel
theorem dmgrPlus_67 : decode method_3_code 67 = .ok (.bipush 47, 2) := by decide +kernel
theorem dmgrPlus_69 : decode method_3_code 69 = .ok (.castore, 1) := by decide +kernel
theorem dmgrPlus_70 : decode method_3_code 70 = .ok (.dup, 1) := by decide +kernel
theorem dmgrPlus_71 : decode method_3_code 71 = .ok (.bipush 12, 2) := by decide +kernel
theorem dmgrPlus_73 : decode method_3_code 73 = .ok (.bipush 80, 2) := by decide +kernel
theorem dmgrPlus_75 : decode method_3_code 75 = .ok (.castore, 1) := by decide +kernel
theorem dmgrPlus_76 : decode method_3_code 76 = .ok (.dup, 1) := by decide +kernel
theorem dmgrPlus_77 : decode method_3_code 77 = .ok (.bipush 13, 2) := by decide +kernel
theorem dmgrPlus_79 : decode method_3_code 79 = .ok (.bipush 111, 2) := by decide +kernel
theorem dmgrPlus_81 : decode method_3_code 81 = .ok (.castore, 1) := by decide +kernel
theorem dmgrPlus_82 : decode method_3_code 82 = .ok (.dup, 1) := by decide +kernel
theorem dmgrPlus_83 : decode method_3_code 83 = .ok (.bipush 14, 2) := by decide +kernel
theorem dmgrPlus_85 : decode method_3_code 85 = .ok (.bipush 114, 2) := by decide +kernel
theorem dmgrPlus_87 : decode method_3_code 87 = .ok (.castore, 1) := by decide +kernel
theorem dmgrPlus_88 : decode method_3_code 88 = .ok (.dup, 1) := by decide +kernel
theorem dmgrPlus_89 : decode method_3_code 89 = .ok (.bipush 15, 2) := by decide +kernel
theorem dmgrPlus_91 : decode method_3_code 91 = .ok (.bipush 116, 2) := by decide +kernel
theorem dmgrPlus_93 : decode method_3_code 93 = .ok (.castore, 1) := by decide +kernel
theorem dmgrPlus_94 : decode method_3_code 94 = .ok (.dup, 1) := by decide +kernel
theorem dmgrPlus_95 : decode method_3_code 95 = .ok (.bipush 16, 2) := by decide +kernel
theorem dmgrPlus_97 : decode method_3_code 97 = .ok (.bipush 97, 2) := by decide +kernel
theorem dmgrPlus_99 : decode method_3_code 99 = .ok (.castore, 1) := by decide +kernel
theorem dmgrPlus_100 : decode method_3_code 100 = .ok (.dup, 1) := by decide +kernel
theorem dmgrPlus_101 : decode method_3_code 101 = .ok (.bipush 17, 2) := by decide +kernel
theorem dmgrPlus_103 : decode method_3_code 103 = .ok (.bipush 98, 2) := by decide +kernel
theorem dmgrPlus_105 : decode method_3_code 105 = .ok (.castore, 1) := by decide +kernel
theorem dmgrPlus_106 : decode method_3_code 106 = .ok (.dup, 1) := by decide +kernel
theorem dmgrPlus_107 : decode method_3_code 107 = .ok (.bipush 18, 2) := by decide +kernel
theorem dmgrPlus_109 : decode method_3_code 109 = .ok (.bipush 108, 2) := by decide +kernel
theorem dmgrPlus_111 : decode method_3_code 111 = .ok (.castore, 1) := by decide +kernel
theorem dmgrPlus_112 : decode method_3_code 112 = .ok (.dup, 1) := by decide +kernel
theorem dmgrPlus_113 : decode method_3_code 113 = .ok (.bipush 19, 2) := by decide +kernel
theorem dmgrPlus_115 : decode method_3_code 115 = .ok (.bipush 101, 2) := by decide +kernel
theorem dmgrPlus_117 : decode method_3_code 117 = .ok (.castore, 1) := by decide +kernel
theorem dmgrPlus_118 : decode method_3_code 118 = .ok (.dup, 1) := by decide +kernel
theorem dmgrPlus_119 : decode method_3_code 119 = .ok (.bipush 20, 2) := by decide +kernel
theorem dmgrPlus_121 : decode method_3_code 121 = .ok (.bipush 83, 2) := by decide +kernel
theorem dmgrPlus_123 : decode method_3_code 123 = .ok (.castore, 1) := by decide +kernel
theorem dmgrPlus_124 : decode method_3_code 124 = .ok (.dup, 1) := by decide +kernel
theorem dmgrPlus_125 : decode method_3_code 125 = .ok (.bipush 21, 2) := by decide +kernel
theorem dmgrPlus_127 : decode method_3_code 127 = .ok (.bipush 101, 2) := by decide +kernel
theorem dmgrPlus_129 : decode method_3_code 129 = .ok (.castore, 1) := by decide +kernel
theorem dmgrPlus_130 : decode method_3_code 130 = .ok (.dup, 1) := by decide +kernel
theorem dmgrPlus_131 : decode method_3_code 131 = .ok (.bipush 22, 2) := by decide +kernel
theorem dmgrPlus_133 : decode method_3_code 133 = .ok (.bipush 114, 2) := by decide +kernel
theorem dmgrPlus_135 : decode method_3_code 135 = .ok (.castore, 1) := by decide +kernel
theorem dmgrPlus_136 : decode method_3_code 136 = .ok (.dup, 1) := by decide +kernel
theorem dmgrPlus_137 : decode method_3_code 137 = .ok (.bipush 23, 2) := by decide +kernel
theorem dmgrPlus_139 : decode method_3_code 139 = .ok (.bipush 118, 2) := by decide +kernel
theorem dmgrPlus_141 : decode method_3_code 141 = .ok (.castore, 1) := by decide +kernel
theorem dmgrPlus_142 : decode method_3_code 142 = .ok (.dup, 1) := by decide +kernel
theorem dmgrPlus_143 : decode method_3_code 143 = .ok (.bipush 24, 2) := by decide +kernel
theorem dmgrPlus_145 : decode method_3_code 145 = .ok (.bipush 101, 2) := by decide +kernel
theorem dmgrPlus_147 : decode method_3_code 147 = .ok (.castore, 1) := by decide +kernel
theorem dmgrPlus_148 : decode method_3_code 148 = .ok (.dup, 1) := by decide +kernel
theorem dmgrPlus_149 : decode method_3_code 149 = .ok (.bipush 25, 2) := by decide +kernel
theorem dmgrPlus_151 : decode method_3_code 151 = .ok (.bipush 114, 2) := by decide +kernel
theorem dmgrPlus_153 : decode method_3_code 153 = .ok (.castore, 1) := by decide +kernel
theorem dmgrPlus_154 : decode method_3_code 154 = .ok (.dup, 1) := by decide +kernel
theorem dmgrPlus_155 : decode method_3_code 155 = .ok (.bipush 26, 2) := by decide +kernel
theorem dmgrPlus_157 : decode method_3_code 157 = .ok (.bipush 47, 2) := by decide +kernel
theorem dmgrPlus_159 : decode method_3_code 159 = .ok (.castore, 1) := by decide +kernel
theorem dmgrPlus_160 : decode method_3_code 160 = .ok (.dup, 1) := by decide +kernel
theorem dmgrPlus_161 : decode method_3_code 161 = .ok (.bipush 27, 2) := by decide +kernel
theorem dmgrPlus_163 : decode method_3_code 163 = .ok (.bipush 80, 2) := by decide +kernel
theorem dmgrPlus_165 : decode method_3_code 165 = .ok (.castore, 1) := by decide +kernel
theorem dmgrPlus_166 : decode method_3_code 166 = .ok (.dup, 1) := by decide +kernel
theorem dmgrPlus_167 : decode method_3_code 167 = .ok (.bipush 28, 2) := by decide +kernel
theorem dmgrPlus_169 : decode method_3_code 169 = .ok (.bipush 79, 2) := by decide +kernel
theorem dmgrPlus_171 : decode method_3_code 171 = .ok (.castore, 1) := by decide +kernel
theorem dmgrPlus_172 : decode method_3_code 172 = .ok (.dup, 1) := by decide +kernel
theorem dmgrPlus_173 : decode method_3_code 173 = .ok (.bipush 29, 2) := by decide +kernel
theorem dmgrPlus_175 : decode method_3_code 175 = .ok (.bipush 65, 2) := by decide +kernel
theorem dmgrPlus_177 : decode method_3_code 177 = .ok (.castore, 1) := by decide +kernel
theorem dmgrPlus_178 : decode method_3_code 178 = .ok (.dup, 1) := by decide +kernel
theorem dmgrPlus_179 : decode method_3_code 179 = .ok (.bipush 30, 2) := by decide +kernel
theorem dmgrPlus_181 : decode method_3_code 181 = .ok (.bipush 77, 2) := by decide +kernel
theorem dmgrPlus_183 : decode method_3_code 183 = .ok (.castore, 1) := by decide +kernel
theorem dmgrPlus_184 : decode method_3_code 184 = .ok (.dup, 1) := by decide +kernel
theorem dmgrPlus_185 : decode method_3_code 185 = .ok (.bipush 31, 2) := by decide +kernel
theorem dmgrPlus_187 : decode method_3_code 187 = .ok (.bipush 97, 2) := by decide +kernel
theorem dmgrPlus_189 : decode method_3_code 189 = .ok (.castore, 1) := by decide +kernel
theorem dmgrPlus_190 : decode method_3_code 190 = .ok (.dup, 1) := by decide +kernel
theorem dmgrPlus_191 : decode method_3_code 191 = .ok (.bipush 32, 2) := by decide +kernel
theorem dmgrPlus_193 : decode method_3_code 193 = .ok (.bipush 110, 2) := by decide +kernel
theorem dmgrPlus_195 : decode method_3_code 195 = .ok (.castore, 1) := by decide +kernel
theorem dmgrPlus_196 : decode method_3_code 196 = .ok (.dup, 1) := by decide +kernel
theorem dmgrPlus_197 : decode method_3_code 197 = .ok (.bipush 33, 2) := by decide +kernel
theorem dmgrPlus_199 : decode method_3_code 199 = .ok (.bipush 97, 2) := by decide +kernel
theorem dmgrPlus_201 : decode method_3_code 201 = .ok (.castore, 1) := by decide +kernel
theorem dmgrPlus_202 : decode method_3_code 202 = .ok (.dup, 1) := by decide +kernel
theorem dmgrPlus_203 : decode method_3_code 203 = .ok (.bipush 34, 2) := by decide +kernel
theorem dmgrPlus_205 : decode method_3_code 205 = .ok (.bipush 103, 2) := by decide +kernel
theorem dmgrPlus_207 : decode method_3_code 207 = .ok (.castore, 1) := by decide +kernel
theorem dmgrPlus_208 : decode method_3_code 208 = .ok (.dup, 1) := by decide +kernel
theorem dmgrPlus_209 : decode method_3_code 209 = .ok (.bipush 35, 2) := by decide +kernel
theorem dmgrPlus_211 : decode method_3_code 211 = .ok (.bipush 101, 2) := by decide +kernel
theorem dmgrPlus_213 : decode method_3_code 213 = .ok (.castore, 1) := by decide +kernel
theorem dmgrPlus_214 : decode method_3_code 214 = .ok (.dup, 1) := by decide +kernel
theorem dmgrPlus_215 : decode method_3_code 215 = .ok (.bipush 36, 2) := by decide +kernel
theorem dmgrPlus_217 : decode method_3_code 217 = .ok (.bipush 114, 2) := by decide +kernel
theorem dmgrPlus_219 : decode method_3_code 219 = .ok (.castore, 1) := by decide +kernel
theorem dmgrPlus_220 : decode method_3_code 220 = .ok (.dup, 1) := by decide +kernel
theorem dmgrPlus_221 : decode method_3_code 221 = .ok (.bipush 37, 2) := by decide +kernel
theorem dmgrPlus_223 : decode method_3_code 223 = .ok (.bipush 58, 2) := by decide +kernel
theorem dmgrPlus_225 : decode method_3_code 225 = .ok (.castore, 1) := by decide +kernel
theorem dmgrPlus_226 : decode method_3_code 226 = .ok (.dup, 1) := by decide +kernel
theorem dmgrPlus_227 : decode method_3_code 227 = .ok (.bipush 38, 2) := by decide +kernel
theorem dmgrPlus_229 : decode method_3_code 229 = .ok (.bipush 50, 2) := by decide +kernel
theorem dmgrPlus_231 : decode method_3_code 231 = .ok (.castore, 1) := by decide +kernel
theorem dmgrPlus_232 : decode method_3_code 232 = .ok (.dup, 1) := by decide +kernel
theorem dmgrPlus_233 : decode method_3_code 233 = .ok (.bipush 39, 2) := by decide +kernel
theorem dmgrPlus_235 : decode method_3_code 235 = .ok (.bipush 46, 2) := by decide +kernel
theorem dmgrPlus_237 : decode method_3_code 237 = .ok (.castore, 1) := by decide +kernel
theorem dmgrPlus_238 : decode method_3_code 238 = .ok (.dup, 1) := by decide +kernel
theorem dmgrPlus_239 : decode method_3_code 239 = .ok (.bipush 40, 2) := by decide +kernel
theorem dmgrPlus_241 : decode method_3_code 241 = .ok (.bipush 51, 2) := by decide +kernel
theorem dmgrPlus_243 : decode method_3_code 243 = .ok (.castore, 1) := by decide +kernel
theorem dmgrPlus_244 : decode method_3_code 244 = .ok (.dup, 1) := by decide +kernel
theorem dmgrPlus_245 : decode method_3_code 245 = .ok (.bipush 41, 2) := by decide +kernel
theorem dmgrPlus_247 : decode method_3_code 247 = .ok (.iload_n 0, 1) := by decide +kernel
theorem dmgrPlus_248 : decode method_3_code 248 = .ok (.castore, 1) := by decide +kernel
theorem dmgrPlus_249 : decode method_3_code 249 = .ok (.areturn, 1) := by decide +kernel
theorem ef_mgrPlus (m : MethodId) (x0 : Int32) : entryFrame m #[(.int x0)] 1 = mkF m 0 #[.val (.int x0)] [] := by first | (simp [entryFrame, mkF, argsToLocals, Value.category]; done) | rfl
set_option maxRecDepth 65536 in
set_option maxHeartbeats 40000000 in
theorem rm_mgrPlus (l : Launch) (Z : State) (a0 : Array Value) (hw : ∀ d ∈ tables_1, d.before a0 Z = true) (ws : List Jvm.Cond) (pc : Int32) (h0 : Heap) (n0 : Nat) (Z0 : n0 ≤ h0.size) :
    MetFree l (⟨"com/example/tramway/tramway/poa/TramwayPoaManagerIs_aPinLaw", "mgrPlus", "(C)[C"⟩ : MethodName) (head1 (Jvm.Cond.code (⟨"com/example/tramway/tramway/poa/TramwayPoaManagerIs_aPinLaw", "mgrPlus", "(C)[C"⟩ : MethodName) method_3_code 1 (some (.array .char)) :: ws) ({ frames := 0, cells := 1, slots := 42, locals := 0 } : Room)) (fun a U => a = #[(.int pc)] ∧ Z.Warmed39 U.vm ∧ U.heap = h0) (fun _ _ _ _ _ => True) (fun _ U o U' => ∃ v L, o = .returned v ∧ QA Z (42 : Int32) (own_L0 ++ [nar .char pc]) h0 n0 v U'.heap L ∧ FrameEnd U o U' L ({ frames := 0, cells := 1, slots := 42, locals := 0 } : Room).cells ({ frames := 0, cells := 1, slots := 42, locals := 0 } : Room).slots) := by
  refine MetFree.of_bodySF (plainFor_of_name pnL) hisR ?_
  intro p e s m args below meth c s₁ Bd hml0 hP hK
  obtain ⟨rfl, hZ, hh⟩ := hP
  have hx := Bd.exec
  have hby := Bd.bytes
  have hml : c.maxLocals = 1 := hml0
  have hown : s.vm.findClass "com/example/tramway/tramway/poa/TramwayPoaManagerIs_aPinLaw" = some m.cls := findClass_of_methodNamed Bd.named
  have hnm := (name_of_methodNamed Bd.named Bd.method).1
  have X0 : Stand p l e ({ frames := 0, cells := 1, slots := 42, locals := 0 } : Room) s m #[(.int pc)] below meth c s₁ [] 0 0 := Stand.of_body Bd
  have e0 : s₁.heap = h0 := by rw [← hh, Bd.state]; rfl
  have N0 := Fr.nil n0
  have go0 : ∀ tg_, Steps p.tables e below (s₁.setTop (mkF m 0 #[.val (.int pc)] [])) tg_ → Steps p.tables e below (s₁.setTop (entryFrame m #[(.int pc)] 1)) tg_ := fun tg_ k => castTop (ef_mgrPlus m pc) k
  have KH0 : Keep h0 h0 [] := Keep.refl h0 []
  obtain ⟨T101, h101, k101, X101, e101, E101, A101, st101⟩ := newP X0 hx hZ (hw _ (List.mem_of_getElem? (i := 19) rfl)) e0 (g := (mkF m 2 #[.val (.int pc)] [(.int (42 : Int32))])) rfl (hb hby dmgrPlus_2) rfl (by decide) (cap := 42) (by decide) (by decide) (by decide) (by decide)
  obtain ⟨ar, g101⟩ : ∃ z, z = h0.size := ⟨_, rfl⟩
  rw [← g101] at A101 st101
  have sz_ar : h0.size ≤ ar := Nat.le_trans KH0.1 (Nat.le_of_eq g101.symm)
  have g_ar : n0 ≤ ar := Nat.le_trans Z0 (Nat.le_of_eq g101.symm)
  have V_ar : Arv Z h101 ar k101 .char (42 : Int32) [(.int (0 : Int32)), (.int (0 : Int32)), (.int (0 : Int32)), (.int (0 : Int32)), (.int (0 : Int32)), (.int (0 : Int32)), (.int (0 : Int32)), (.int (0 : Int32)), (.int (0 : Int32)), (.int (0 : Int32)), (.int (0 : Int32)), (.int (0 : Int32)), (.int (0 : Int32)), (.int (0 : Int32)), (.int (0 : Int32)), (.int (0 : Int32)), (.int (0 : Int32)), (.int (0 : Int32)), (.int (0 : Int32)), (.int (0 : Int32)), (.int (0 : Int32)), (.int (0 : Int32)), (.int (0 : Int32)), (.int (0 : Int32)), (.int (0 : Int32)), (.int (0 : Int32)), (.int (0 : Int32)), (.int (0 : Int32)), (.int (0 : Int32)), (.int (0 : Int32)), (.int (0 : Int32)), (.int (0 : Int32)), (.int (0 : Int32)), (.int (0 : Int32)), (.int (0 : Int32)), (.int (0 : Int32)), (.int (0 : Int32)), (.int (0 : Int32)), (.int (0 : Int32)), (.int (0 : Int32)), (.int (0 : Int32)), (.int (0 : Int32))] (.int (0 : Int32)) := (Arv.new A101 (by decide)).pad (pad_rep [] (.int (0 : Int32)) 42)
  have K101 : Keep h0 h101 [] := (Keep.refl _ []).ext E101
  have KH102 : Keep h0 h101 [] := KH0.trans K101 all0
  have lt_ar : ar < h101.size := V_ar.lt
  obtain ⟨cl103, Ar103, q103, S103, M103, Hh103, G103⟩ := id V_ar
  obtain ⟨T103, h103, X103, e103, W103, st103⟩ := stC X101 hx hZ e101 Ar103 (j := (0 : Int32)) (inb_of S103 ⟨by decide, by decide⟩) (g := (mkF m 8 #[.val (.int pc)] [(.int (73 : Int32)), (.int (0 : Int32)), (.ref ar), (.ref ar)])) rfl rfl (hb hby dmgrPlus_8)
  have V_ar_103 : Arv Z h103 ar k101 .char (42 : Int32) [(.int (73 : Int32)), (.int (0 : Int32)), (.int (0 : Int32)), (.int (0 : Int32)), (.int (0 : Int32)), (.int (0 : Int32)), (.int (0 : Int32)), (.int (0 : Int32)), (.int (0 : Int32)), (.int (0 : Int32)), (.int (0 : Int32)), (.int (0 : Int32)), (.int (0 : Int32)), (.int (0 : Int32)), (.int (0 : Int32)), (.int (0 : Int32)), (.int (0 : Int32)), (.int (0 : Int32)), (.int (0 : Int32)), (.int (0 : Int32)), (.int (0 : Int32)), (.int (0 : Int32)), (.int (0 : Int32)), (.int (0 : Int32)), (.int (0 : Int32)), (.int (0 : Int32)), (.int (0 : Int32)), (.int (0 : Int32)), (.int (0 : Int32)), (.int (0 : Int32)), (.int (0 : Int32)), (.int (0 : Int32)), (.int (0 : Int32)), (.int (0 : Int32)), (.int (0 : Int32)), (.int (0 : Int32)), (.int (0 : Int32)), (.int (0 : Int32)), (.int (0 : Int32)), (.int (0 : Int32)), (.int (0 : Int32)), (.int (0 : Int32))] (.int (0 : Int32)) := Arv.set Ar103 q103 S103 M103 Hh103 G103 (fits_nar_char _) W103 0 rfl (Nat.le_of_ble_eq_true rfl)
  have K103 : Keep h101 h103 [ar] := Keep.of_wr W103
  have KH104 : Keep h0 h103 [] := KH102.trans K103 (allS (Or.inr sz_ar) all0)
  have N103 := Fr.snoc X103 N0 g_ar
  obtain ⟨cl105, Ar105, q105, S105, M105, Hh105, G105⟩ := id V_ar_103
  obtain ⟨T105, h105, X105, e105, W105, st105⟩ := stC X103 hx hZ e103 Ar105 (j := (1 : Int32)) (inb_of S105 ⟨by decide, by decide⟩) (g := (mkF m 13 #[.val (.int pc)] [(.int (68 : Int32)), (.int (1 : Int32)), (.ref ar), (.ref ar)])) rfl rfl (hb hby dmgrPlus_13)
  have V_ar_105 : Arv Z h105 ar k101 .char (42 : Int32) [(.int (73 : Int32)), (.int (68 : Int32)), (.int (0 : Int32)), (.int (0 : Int32)), (.int (0 : Int32)), (.int (0 : Int32)), (.int (0 : Int32)), (.int (0 : Int32)), (.int (0 : Int32)), (.int (0 : Int32)), (.int (0 : Int32)), (.int (0 : Int32)), (.int (0 : Int32)), (.int (0 : Int32)), (.int (0 : Int32)), (.int (0 : Int32)), (.int (0 : Int32)), (.int (0 : Int32)), (.int (0 : Int32)), (.int (0 : Int32)), (.int (0 : Int32)), (.int (0 : Int32)), (.int (0 : Int32)), (.int (0 : Int32)), (.int (0 : Int32)), (.int (0 : Int32)), (.int (0 : Int32)), (.int (0 : Int32)), (.int (0 : Int32)), (.int (0 : Int32)), (.int (0 : Int32)), (.int (0 : Int32)), (.int (0 : Int32)), (.int (0 : Int32)), (.int (0 : Int32)), (.int (0 : Int32)), (.int (0 : Int32)), (.int (0 : Int32)), (.int (0 : Int32)), (.int (0 : Int32)), (.int (0 : Int32)), (.int (0 : Int32))] (.int (0 : Int32)) := Arv.set Ar105 q105 S105 M105 Hh105 G105 (fits_nar_char _) W105 1 rfl (Nat.le_of_ble_eq_true rfl)
  have K105 : Keep h103 h105 [ar] := Keep.of_wr W105
  have KH106 : Keep h0 h105 [] := KH104.trans K105 (allS (Or.inr sz_ar) all0)
  have N105 := Fr.snoc X105 N103 g_ar
  obtain ⟨cl107, Ar107, q107, S107, M107, Hh107, G107⟩ := id V_ar_105
  obtain ⟨T107, h107, X107, e107, W107, st107⟩ := stC X105 hx hZ e105 Ar107 (j := (2 : Int32)) (inb_of S107 ⟨by decide, by decide⟩) (g := (mkF m 18 #[.val (.int pc)] [(.int (76 : Int32)), (.int (2 : Int32)), (.ref ar), (.ref ar)])) rfl rfl (hb hby dmgrPlus_18)
  have V_ar_107 : Arv Z h107 ar k101 .char (42 : Int32) [(.int (73 : Int32)), (.int (68 : Int32)), (.int (76 : Int32)), (.int (0 : Int32)), (.int (0 : Int32)), (.int (0 : Int32)), (.int (0 : Int32)), (.int (0 : Int32)), (.int (0 : Int32)), (.int (0 : Int32)), (.int (0 : Int32)), (.int (0 : Int32)), (.int (0 : Int32)), (.int (0 : Int32)), (.int (0 : Int32)), (.int (0 : Int32)), (.int (0 : Int32)), (.int (0 : Int32)), (.int (0 : Int32)), (.int (0 : Int32)), (.int (0 : Int32)), (.int (0 : Int32)), (.int (0 : Int32)), (.int (0 : Int32)), (.int (0 : Int32)), (.int (0 : Int32)), (.int (0 : Int32)), (.int (0 : Int32)), (.int (0 : Int32)), (.int (0 : Int32)), (.int (0 : Int32)), (.int (0 : Int32)), (.int (0 : Int32)), (.int (0 : Int32)), (.int (0 : Int32)), (.int (0 : Int32)), (.int (0 : Int32)), (.int (0 : Int32)), (.int (0 : Int32)), (.int (0 : Int32)), (.int (0 : Int32)), (.int (0 : Int32))] (.int (0 : Int32)) := Arv.set Ar107 q107 S107 M107 Hh107 G107 (fits_nar_char _) W107 2 rfl (Nat.le_of_ble_eq_true rfl)
  have K107 : Keep h105 h107 [ar] := Keep.of_wr W107
  have KH108 : Keep h0 h107 [] := KH106.trans K107 (allS (Or.inr sz_ar) all0)
  have N107 := Fr.snoc X107 N105 g_ar
  obtain ⟨cl109, Ar109, q109, S109, M109, Hh109, G109⟩ := id V_ar_107
  obtain ⟨T109, h109, X109, e109, W109, st109⟩ := stC X107 hx hZ e107 Ar109 (j := (3 : Int32)) (inb_of S109 ⟨by decide, by decide⟩) (g := (mkF m 23 #[.val (.int pc)] [(.int (58 : Int32)), (.int (3 : Int32)), (.ref ar), (.ref ar)])) rfl rfl (hb hby dmgrPlus_23)
  have V_ar_109 : Arv Z h109 ar k101 .char (42 : Int32) [(.int (73 : Int32)), (.int (68 : Int32)), (.int (76 : Int32)), (.int (58 : Int32)), (.int (0 : Int32)), (.int (0 : Int32)), (.int (0 : Int32)), (.int (0 : Int32)), (.int (0 : Int32)), (.int (0 : Int32)), (.int (0 : Int32)), (.int (0 : Int32)), (.int (0 : Int32)), (.int (0 : Int32)), (.int (0 : Int32)), (.int (0 : Int32)), (.int (0 : Int32)), (.int (0 : Int32)), (.int (0 : Int32)), (.int (0 : Int32)), (.int (0 : Int32)), (.int (0 : Int32)), (.int (0 : Int32)), (.int (0 : Int32)), (.int (0 : Int32)), (.int (0 : Int32)), (.int (0 : Int32)), (.int (0 : Int32)), (.int (0 : Int32)), (.int (0 : Int32)), (.int (0 : Int32)), (.int (0 : Int32)), (.int (0 : Int32)), (.int (0 : Int32)), (.int (0 : Int32)), (.int (0 : Int32)), (.int (0 : Int32)), (.int (0 : Int32)), (.int (0 : Int32)), (.int (0 : Int32)), (.int (0 : Int32)), (.int (0 : Int32))] (.int (0 : Int32)) := Arv.set Ar109 q109 S109 M109 Hh109 G109 (fits_nar_char _) W109 3 rfl (Nat.le_of_ble_eq_true rfl)
  have K109 : Keep h107 h109 [ar] := Keep.of_wr W109
  have KH110 : Keep h0 h109 [] := KH108.trans K109 (allS (Or.inr sz_ar) all0)
  have N109 := Fr.snoc X109 N107 g_ar
  obtain ⟨cl111, Ar111, q111, S111, M111, Hh111, G111⟩ := id V_ar_109
  obtain ⟨T111, h111, X111, e111, W111, st111⟩ := stC X109 hx hZ e109 Ar111 (j := (4 : Int32)) (inb_of S111 ⟨by decide, by decide⟩) (g := (mkF m 28 #[.val (.int pc)] [(.int (111 : Int32)), (.int (4 : Int32)), (.ref ar), (.ref ar)])) rfl rfl (hb hby dmgrPlus_28)
  have V_ar_111 : Arv Z h111 ar k101 .char (42 : Int32) [(.int (73 : Int32)), (.int (68 : Int32)), (.int (76 : Int32)), (.int (58 : Int32)), (.int (111 : Int32)), (.int (0 : Int32)), (.int (0 : Int32)), (.int (0 : Int32)), (.int (0 : Int32)), (.int (0 : Int32)), (.int (0 : Int32)), (.int (0 : Int32)), (.int (0 : Int32)), (.int (0 : Int32)), (.int (0 : Int32)), (.int (0 : Int32)), (.int (0 : Int32)), (.int (0 : Int32)), (.int (0 : Int32)), (.int (0 : Int32)), (.int (0 : Int32)), (.int (0 : Int32)), (.int (0 : Int32)), (.int (0 : Int32)), (.int (0 : Int32)), (.int (0 : Int32)), (.int (0 : Int32)), (.int (0 : Int32)), (.int (0 : Int32)), (.int (0 : Int32)), (.int (0 : Int32)), (.int (0 : Int32)), (.int (0 : Int32)), (.int (0 : Int32)), (.int (0 : Int32)), (.int (0 : Int32)), (.int (0 : Int32)), (.int (0 : Int32)), (.int (0 : Int32)), (.int (0 : Int32)), (.int (0 : Int32)), (.int (0 : Int32))] (.int (0 : Int32)) := Arv.set Ar111 q111 S111 M111 Hh111 G111 (fits_nar_char _) W111 4 rfl (Nat.le_of_ble_eq_true rfl)
  have K111 : Keep h109 h111 [ar] := Keep.of_wr W111
  have KH112 : Keep h0 h111 [] := KH110.trans K111 (allS (Or.inr sz_ar) all0)
  have N111 := Fr.snoc X111 N109 g_ar
  obtain ⟨cl113, Ar113, q113, S113, M113, Hh113, G113⟩ := id V_ar_111
  obtain ⟨T113, h113, X113, e113, W113, st113⟩ := stC X111 hx hZ e111 Ar113 (j := (5 : Int32)) (inb_of S113 ⟨by decide, by decide⟩) (g := (mkF m 33 #[.val (.int pc)] [(.int (109 : Int32)), (.int (5 : Int32)), (.ref ar), (.ref ar)])) rfl rfl (hb hby dmgrPlus_33)
  have V_ar_113 : Arv Z h113 ar k101 .char (42 : Int32) [(.int (73 : Int32)), (.int (68 : Int32)), (.int (76 : Int32)), (.int (58 : Int32)), (.int (111 : Int32)), (.int (109 : Int32)), (.int (0 : Int32)), (.int (0 : Int32)), (.int (0 : Int32)), (.int (0 : Int32)), (.int (0 : Int32)), (.int (0 : Int32)), (.int (0 : Int32)), (.int (0 : Int32)), (.int (0 : Int32)), (.int (0 : Int32)), (.int (0 : Int32)), (.int (0 : Int32)), (.int (0 : Int32)), (.int (0 : Int32)), (.int (0 : Int32)), (.int (0 : Int32)), (.int (0 : Int32)), (.int (0 : Int32)), (.int (0 : Int32)), (.int (0 : Int32)), (.int (0 : Int32)), (.int (0 : Int32)), (.int (0 : Int32)), (.int (0 : Int32)), (.int (0 : Int32)), (.int (0 : Int32)), (.int (0 : Int32)), (.int (0 : Int32)), (.int (0 : Int32)), (.int (0 : Int32)), (.int (0 : Int32)), (.int (0 : Int32)), (.int (0 : Int32)), (.int (0 : Int32)), (.int (0 : Int32)), (.int (0 : Int32))] (.int (0 : Int32)) := Arv.set Ar113 q113 S113 M113 Hh113 G113 (fits_nar_char _) W113 5 rfl (Nat.le_of_ble_eq_true rfl)
  have K113 : Keep h111 h113 [ar] := Keep.of_wr W113
  have KH114 : Keep h0 h113 [] := KH112.trans K113 (allS (Or.inr sz_ar) all0)
  have N113 := Fr.snoc X113 N111 g_ar
  obtain ⟨cl115, Ar115, q115, S115, M115, Hh115, G115⟩ := id V_ar_113
  obtain ⟨T115, h115, X115, e115, W115, st115⟩ := stC X113 hx hZ e113 Ar115 (j := (6 : Int32)) (inb_of S115 ⟨by decide, by decide⟩) (g := (mkF m 39 #[.val (.int pc)] [(.int (103 : Int32)), (.int (6 : Int32)), (.ref ar), (.ref ar)])) rfl rfl (hb hby dmgrPlus_39)
  have V_ar_115 : Arv Z h115 ar k101 .char (42 : Int32) [(.int (73 : Int32)), (.int (68 : Int32)), (.int (76 : Int32)), (.int (58 : Int32)), (.int (111 : Int32)), (.int (109 : Int32)), (.int (103 : Int32)), (.int (0 : Int32)), (.int (0 : Int32)), (.int (0 : Int32)), (.int (0 : Int32)), (.int (0 : Int32)), (.int (0 : Int32)), (.int (0 : Int32)), (.int (0 : Int32)), (.int (0 : Int32)), (.int (0 : Int32)), (.int (0 : Int32)), (.int (0 : Int32)), (.int (0 : Int32)), (.int (0 : Int32)), (.int (0 : Int32)), (.int (0 : Int32)), (.int (0 : Int32)), (.int (0 : Int32)), (.int (0 : Int32)), (.int (0 : Int32)), (.int (0 : Int32)), (.int (0 : Int32)), (.int (0 : Int32)), (.int (0 : Int32)), (.int (0 : Int32)), (.int (0 : Int32)), (.int (0 : Int32)), (.int (0 : Int32)), (.int (0 : Int32)), (.int (0 : Int32)), (.int (0 : Int32)), (.int (0 : Int32)), (.int (0 : Int32)), (.int (0 : Int32)), (.int (0 : Int32))] (.int (0 : Int32)) := Arv.set Ar115 q115 S115 M115 Hh115 G115 (fits_nar_char _) W115 6 rfl (Nat.le_of_ble_eq_true rfl)
  have K115 : Keep h113 h115 [ar] := Keep.of_wr W115
  have KH116 : Keep h0 h115 [] := KH114.trans K115 (allS (Or.inr sz_ar) all0)
  have N115 := Fr.snoc X115 N113 g_ar
  obtain ⟨cl117, Ar117, q117, S117, M117, Hh117, G117⟩ := id V_ar_115
  obtain ⟨T117, h117, X117, e117, W117, st117⟩ := stC X115 hx hZ e115 Ar117 (j := (7 : Int32)) (inb_of S117 ⟨by decide, by decide⟩) (g := (mkF m 45 #[.val (.int pc)] [(.int (46 : Int32)), (.int (7 : Int32)), (.ref ar), (.ref ar)])) rfl rfl (hb hby dmgrPlus_45)
  have V_ar_117 : Arv Z h117 ar k101 .char (42 : Int32) [(.int (73 : Int32)), (.int (68 : Int32)), (.int (76 : Int32)), (.int (58 : Int32)), (.int (111 : Int32)), (.int (109 : Int32)), (.int (103 : Int32)), (.int (46 : Int32)), (.int (0 : Int32)), (.int (0 : Int32)), (.int (0 : Int32)), (.int (0 : Int32)), (.int (0 : Int32)), (.int (0 : Int32)), (.int (0 : Int32)), (.int (0 : Int32)), (.int (0 : Int32)), (.int (0 : Int32)), (.int (0 : Int32)), (.int (0 : Int32)), (.int (0 : Int32)), (.int (0 : Int32)), (.int (0 : Int32)), (.int (0 : Int32)), (.int (0 : Int32)), (.int (0 : Int32)), (.int (0 : Int32)), (.int (0 : Int32)), (.int (0 : Int32)), (.int (0 : Int32)), (.int (0 : Int32)), (.int (0 : Int32)), (.int (0 : Int32)), (.int (0 : Int32)), (.int (0 : Int32)), (.int (0 : Int32)), (.int (0 : Int32)), (.int (0 : Int32)), (.int (0 : Int32)), (.int (0 : Int32)), (.int (0 : Int32)), (.int (0 : Int32))] (.int (0 : Int32)) := Arv.set Ar117 q117 S117 M117 Hh117 G117 (fits_nar_char _) W117 7 rfl (Nat.le_of_ble_eq_true rfl)
  have K117 : Keep h115 h117 [ar] := Keep.of_wr W117
  have KH118 : Keep h0 h117 [] := KH116.trans K117 (allS (Or.inr sz_ar) all0)
  have N117 := Fr.snoc X117 N115 g_ar
  obtain ⟨cl119, Ar119, q119, S119, M119, Hh119, G119⟩ := id V_ar_117
  obtain ⟨T119, h119, X119, e119, W119, st119⟩ := stC X117 hx hZ e117 Ar119 (j := (8 : Int32)) (inb_of S119 ⟨by decide, by decide⟩) (g := (mkF m 51 #[.val (.int pc)] [(.int (111 : Int32)), (.int (8 : Int32)), (.ref ar), (.ref ar)])) rfl rfl (hb hby dmgrPlus_51)
  have V_ar_119 : Arv Z h119 ar k101 .char (42 : Int32) [(.int (73 : Int32)), (.int (68 : Int32)), (.int (76 : Int32)), (.int (58 : Int32)), (.int (111 : Int32)), (.int (109 : Int32)), (.int (103 : Int32)), (.int (46 : Int32)), (.int (111 : Int32)), (.int (0 : Int32)), (.int (0 : Int32)), (.int (0 : Int32)), (.int (0 : Int32)), (.int (0 : Int32)), (.int (0 : Int32)), (.int (0 : Int32)), (.int (0 : Int32)), (.int (0 : Int32)), (.int (0 : Int32)), (.int (0 : Int32)), (.int (0 : Int32)), (.int (0 : Int32)), (.int (0 : Int32)), (.int (0 : Int32)), (.int (0 : Int32)), (.int (0 : Int32)), (.int (0 : Int32)), (.int (0 : Int32)), (.int (0 : Int32)), (.int (0 : Int32)), (.int (0 : Int32)), (.int (0 : Int32)), (.int (0 : Int32)), (.int (0 : Int32)), (.int (0 : Int32)), (.int (0 : Int32)), (.int (0 : Int32)), (.int (0 : Int32)), (.int (0 : Int32)), (.int (0 : Int32)), (.int (0 : Int32)), (.int (0 : Int32))] (.int (0 : Int32)) := Arv.set Ar119 q119 S119 M119 Hh119 G119 (fits_nar_char _) W119 8 rfl (Nat.le_of_ble_eq_true rfl)
  have K119 : Keep h117 h119 [ar] := Keep.of_wr W119
  have KH120 : Keep h0 h119 [] := KH118.trans K119 (allS (Or.inr sz_ar) all0)
  have N119 := Fr.snoc X119 N117 g_ar
  obtain ⟨cl121, Ar121, q121, S121, M121, Hh121, G121⟩ := id V_ar_119
  obtain ⟨T121, h121, X121, e121, W121, st121⟩ := stC X119 hx hZ e119 Ar121 (j := (9 : Int32)) (inb_of S121 ⟨by decide, by decide⟩) (g := (mkF m 57 #[.val (.int pc)] [(.int (114 : Int32)), (.int (9 : Int32)), (.ref ar), (.ref ar)])) rfl rfl (hb hby dmgrPlus_57)
  have V_ar_121 : Arv Z h121 ar k101 .char (42 : Int32) [(.int (73 : Int32)), (.int (68 : Int32)), (.int (76 : Int32)), (.int (58 : Int32)), (.int (111 : Int32)), (.int (109 : Int32)), (.int (103 : Int32)), (.int (46 : Int32)), (.int (111 : Int32)), (.int (114 : Int32)), (.int (0 : Int32)), (.int (0 : Int32)), (.int (0 : Int32)), (.int (0 : Int32)), (.int (0 : Int32)), (.int (0 : Int32)), (.int (0 : Int32)), (.int (0 : Int32)), (.int (0 : Int32)), (.int (0 : Int32)), (.int (0 : Int32)), (.int (0 : Int32)), (.int (0 : Int32)), (.int (0 : Int32)), (.int (0 : Int32)), (.int (0 : Int32)), (.int (0 : Int32)), (.int (0 : Int32)), (.int (0 : Int32)), (.int (0 : Int32)), (.int (0 : Int32)), (.int (0 : Int32)), (.int (0 : Int32)), (.int (0 : Int32)), (.int (0 : Int32)), (.int (0 : Int32)), (.int (0 : Int32)), (.int (0 : Int32)), (.int (0 : Int32)), (.int (0 : Int32)), (.int (0 : Int32)), (.int (0 : Int32))] (.int (0 : Int32)) := Arv.set Ar121 q121 S121 M121 Hh121 G121 (fits_nar_char _) W121 9 rfl (Nat.le_of_ble_eq_true rfl)
  have K121 : Keep h119 h121 [ar] := Keep.of_wr W121
  have KH122 : Keep h0 h121 [] := KH120.trans K121 (allS (Or.inr sz_ar) all0)
  have N121 := Fr.snoc X121 N119 g_ar
  obtain ⟨cl123, Ar123, q123, S123, M123, Hh123, G123⟩ := id V_ar_121
  obtain ⟨T123, h123, X123, e123, W123, st123⟩ := stC X121 hx hZ e121 Ar123 (j := (10 : Int32)) (inb_of S123 ⟨by decide, by decide⟩) (g := (mkF m 63 #[.val (.int pc)] [(.int (103 : Int32)), (.int (10 : Int32)), (.ref ar), (.ref ar)])) rfl rfl (hb hby dmgrPlus_63)
  have V_ar_123 : Arv Z h123 ar k101 .char (42 : Int32) [(.int (73 : Int32)), (.int (68 : Int32)), (.int (76 : Int32)), (.int (58 : Int32)), (.int (111 : Int32)), (.int (109 : Int32)), (.int (103 : Int32)), (.int (46 : Int32)), (.int (111 : Int32)), (.int (114 : Int32)), (.int (103 : Int32)), (.int (0 : Int32)), (.int (0 : Int32)), (.int (0 : Int32)), (.int (0 : Int32)), (.int (0 : Int32)), (.int (0 : Int32)), (.int (0 : Int32)), (.int (0 : Int32)), (.int (0 : Int32)), (.int (0 : Int32)), (.int (0 : Int32)), (.int (0 : Int32)), (.int (0 : Int32)), (.int (0 : Int32)), (.int (0 : Int32)), (.int (0 : Int32)), (.int (0 : Int32)), (.int (0 : Int32)), (.int (0 : Int32)), (.int (0 : Int32)), (.int (0 : Int32)), (.int (0 : Int32)), (.int (0 : Int32)), (.int (0 : Int32)), (.int (0 : Int32)), (.int (0 : Int32)), (.int (0 : Int32)), (.int (0 : Int32)), (.int (0 : Int32)), (.int (0 : Int32)), (.int (0 : Int32))] (.int (0 : Int32)) := Arv.set Ar123 q123 S123 M123 Hh123 G123 (fits_nar_char _) W123 10 rfl (Nat.le_of_ble_eq_true rfl)
  have K123 : Keep h121 h123 [ar] := Keep.of_wr W123
  have KH124 : Keep h0 h123 [] := KH122.trans K123 (allS (Or.inr sz_ar) all0)
  have N123 := Fr.snoc X123 N121 g_ar
  obtain ⟨cl125, Ar125, q125, S125, M125, Hh125, G125⟩ := id V_ar_123
  obtain ⟨T125, h125, X125, e125, W125, st125⟩ := stC X123 hx hZ e123 Ar125 (j := (11 : Int32)) (inb_of S125 ⟨by decide, by decide⟩) (g := (mkF m 69 #[.val (.int pc)] [(.int (47 : Int32)), (.int (11 : Int32)), (.ref ar), (.ref ar)])) rfl rfl (hb hby dmgrPlus_69)
  have V_ar_125 : Arv Z h125 ar k101 .char (42 : Int32) [(.int (73 : Int32)), (.int (68 : Int32)), (.int (76 : Int32)), (.int (58 : Int32)), (.int (111 : Int32)), (.int (109 : Int32)), (.int (103 : Int32)), (.int (46 : Int32)), (.int (111 : Int32)), (.int (114 : Int32)), (.int (103 : Int32)), (.int (47 : Int32)), (.int (0 : Int32)), (.int (0 : Int32)), (.int (0 : Int32)), (.int (0 : Int32)), (.int (0 : Int32)), (.int (0 : Int32)), (.int (0 : Int32)), (.int (0 : Int32)), (.int (0 : Int32)), (.int (0 : Int32)), (.int (0 : Int32)), (.int (0 : Int32)), (.int (0 : Int32)), (.int (0 : Int32)), (.int (0 : Int32)), (.int (0 : Int32)), (.int (0 : Int32)), (.int (0 : Int32)), (.int (0 : Int32)), (.int (0 : Int32)), (.int (0 : Int32)), (.int (0 : Int32)), (.int (0 : Int32)), (.int (0 : Int32)), (.int (0 : Int32)), (.int (0 : Int32)), (.int (0 : Int32)), (.int (0 : Int32)), (.int (0 : Int32)), (.int (0 : Int32))] (.int (0 : Int32)) := Arv.set Ar125 q125 S125 M125 Hh125 G125 (fits_nar_char _) W125 11 rfl (Nat.le_of_ble_eq_true rfl)
  have K125 : Keep h123 h125 [ar] := Keep.of_wr W125
  have KH126 : Keep h0 h125 [] := KH124.trans K125 (allS (Or.inr sz_ar) all0)
  have N125 := Fr.snoc X125 N123 g_ar
  obtain ⟨cl127, Ar127, q127, S127, M127, Hh127, G127⟩ := id V_ar_125
  obtain ⟨T127, h127, X127, e127, W127, st127⟩ := stC X125 hx hZ e125 Ar127 (j := (12 : Int32)) (inb_of S127 ⟨by decide, by decide⟩) (g := (mkF m 75 #[.val (.int pc)] [(.int (80 : Int32)), (.int (12 : Int32)), (.ref ar), (.ref ar)])) rfl rfl (hb hby dmgrPlus_75)
  have V_ar_127 : Arv Z h127 ar k101 .char (42 : Int32) [(.int (73 : Int32)), (.int (68 : Int32)), (.int (76 : Int32)), (.int (58 : Int32)), (.int (111 : Int32)), (.int (109 : Int32)), (.int (103 : Int32)), (.int (46 : Int32)), (.int (111 : Int32)), (.int (114 : Int32)), (.int (103 : Int32)), (.int (47 : Int32)), (.int (80 : Int32)), (.int (0 : Int32)), (.int (0 : Int32)), (.int (0 : Int32)), (.int (0 : Int32)), (.int (0 : Int32)), (.int (0 : Int32)), (.int (0 : Int32)), (.int (0 : Int32)), (.int (0 : Int32)), (.int (0 : Int32)), (.int (0 : Int32)), (.int (0 : Int32)), (.int (0 : Int32)), (.int (0 : Int32)), (.int (0 : Int32)), (.int (0 : Int32)), (.int (0 : Int32)), (.int (0 : Int32)), (.int (0 : Int32)), (.int (0 : Int32)), (.int (0 : Int32)), (.int (0 : Int32)), (.int (0 : Int32)), (.int (0 : Int32)), (.int (0 : Int32)), (.int (0 : Int32)), (.int (0 : Int32)), (.int (0 : Int32)), (.int (0 : Int32))] (.int (0 : Int32)) := Arv.set Ar127 q127 S127 M127 Hh127 G127 (fits_nar_char _) W127 12 rfl (Nat.le_of_ble_eq_true rfl)
  have K127 : Keep h125 h127 [ar] := Keep.of_wr W127
  have KH128 : Keep h0 h127 [] := KH126.trans K127 (allS (Or.inr sz_ar) all0)
  have N127 := Fr.snoc X127 N125 g_ar
  obtain ⟨cl129, Ar129, q129, S129, M129, Hh129, G129⟩ := id V_ar_127
  obtain ⟨T129, h129, X129, e129, W129, st129⟩ := stC X127 hx hZ e127 Ar129 (j := (13 : Int32)) (inb_of S129 ⟨by decide, by decide⟩) (g := (mkF m 81 #[.val (.int pc)] [(.int (111 : Int32)), (.int (13 : Int32)), (.ref ar), (.ref ar)])) rfl rfl (hb hby dmgrPlus_81)
  have V_ar_129 : Arv Z h129 ar k101 .char (42 : Int32) [(.int (73 : Int32)), (.int (68 : Int32)), (.int (76 : Int32)), (.int (58 : Int32)), (.int (111 : Int32)), (.int (109 : Int32)), (.int (103 : Int32)), (.int (46 : Int32)), (.int (111 : Int32)), (.int (114 : Int32)), (.int (103 : Int32)), (.int (47 : Int32)), (.int (80 : Int32)), (.int (111 : Int32)), (.int (0 : Int32)), (.int (0 : Int32)), (.int (0 : Int32)), (.int (0 : Int32)), (.int (0 : Int32)), (.int (0 : Int32)), (.int (0 : Int32)), (.int (0 : Int32)), (.int (0 : Int32)), (.int (0 : Int32)), (.int (0 : Int32)), (.int (0 : Int32)), (.int (0 : Int32)), (.int (0 : Int32)), (.int (0 : Int32)), (.int (0 : Int32)), (.int (0 : Int32)), (.int (0 : Int32)), (.int (0 : Int32)), (.int (0 : Int32)), (.int (0 : Int32)), (.int (0 : Int32)), (.int (0 : Int32)), (.int (0 : Int32)), (.int (0 : Int32)), (.int (0 : Int32)), (.int (0 : Int32)), (.int (0 : Int32))] (.int (0 : Int32)) := Arv.set Ar129 q129 S129 M129 Hh129 G129 (fits_nar_char _) W129 13 rfl (Nat.le_of_ble_eq_true rfl)
  have K129 : Keep h127 h129 [ar] := Keep.of_wr W129
  have KH130 : Keep h0 h129 [] := KH128.trans K129 (allS (Or.inr sz_ar) all0)
  have N129 := Fr.snoc X129 N127 g_ar
  obtain ⟨cl131, Ar131, q131, S131, M131, Hh131, G131⟩ := id V_ar_129
  obtain ⟨T131, h131, X131, e131, W131, st131⟩ := stC X129 hx hZ e129 Ar131 (j := (14 : Int32)) (inb_of S131 ⟨by decide, by decide⟩) (g := (mkF m 87 #[.val (.int pc)] [(.int (114 : Int32)), (.int (14 : Int32)), (.ref ar), (.ref ar)])) rfl rfl (hb hby dmgrPlus_87)
  have V_ar_131 : Arv Z h131 ar k101 .char (42 : Int32) [(.int (73 : Int32)), (.int (68 : Int32)), (.int (76 : Int32)), (.int (58 : Int32)), (.int (111 : Int32)), (.int (109 : Int32)), (.int (103 : Int32)), (.int (46 : Int32)), (.int (111 : Int32)), (.int (114 : Int32)), (.int (103 : Int32)), (.int (47 : Int32)), (.int (80 : Int32)), (.int (111 : Int32)), (.int (114 : Int32)), (.int (0 : Int32)), (.int (0 : Int32)), (.int (0 : Int32)), (.int (0 : Int32)), (.int (0 : Int32)), (.int (0 : Int32)), (.int (0 : Int32)), (.int (0 : Int32)), (.int (0 : Int32)), (.int (0 : Int32)), (.int (0 : Int32)), (.int (0 : Int32)), (.int (0 : Int32)), (.int (0 : Int32)), (.int (0 : Int32)), (.int (0 : Int32)), (.int (0 : Int32)), (.int (0 : Int32)), (.int (0 : Int32)), (.int (0 : Int32)), (.int (0 : Int32)), (.int (0 : Int32)), (.int (0 : Int32)), (.int (0 : Int32)), (.int (0 : Int32)), (.int (0 : Int32)), (.int (0 : Int32))] (.int (0 : Int32)) := Arv.set Ar131 q131 S131 M131 Hh131 G131 (fits_nar_char _) W131 14 rfl (Nat.le_of_ble_eq_true rfl)
  have K131 : Keep h129 h131 [ar] := Keep.of_wr W131
  have KH132 : Keep h0 h131 [] := KH130.trans K131 (allS (Or.inr sz_ar) all0)
  have N131 := Fr.snoc X131 N129 g_ar
  obtain ⟨cl133, Ar133, q133, S133, M133, Hh133, G133⟩ := id V_ar_131
  obtain ⟨T133, h133, X133, e133, W133, st133⟩ := stC X131 hx hZ e131 Ar133 (j := (15 : Int32)) (inb_of S133 ⟨by decide, by decide⟩) (g := (mkF m 93 #[.val (.int pc)] [(.int (116 : Int32)), (.int (15 : Int32)), (.ref ar), (.ref ar)])) rfl rfl (hb hby dmgrPlus_93)
  have V_ar_133 : Arv Z h133 ar k101 .char (42 : Int32) [(.int (73 : Int32)), (.int (68 : Int32)), (.int (76 : Int32)), (.int (58 : Int32)), (.int (111 : Int32)), (.int (109 : Int32)), (.int (103 : Int32)), (.int (46 : Int32)), (.int (111 : Int32)), (.int (114 : Int32)), (.int (103 : Int32)), (.int (47 : Int32)), (.int (80 : Int32)), (.int (111 : Int32)), (.int (114 : Int32)), (.int (116 : Int32)), (.int (0 : Int32)), (.int (0 : Int32)), (.int (0 : Int32)), (.int (0 : Int32)), (.int (0 : Int32)), (.int (0 : Int32)), (.int (0 : Int32)), (.int (0 : Int32)), (.int (0 : Int32)), (.int (0 : Int32)), (.int (0 : Int32)), (.int (0 : Int32)), (.int (0 : Int32)), (.int (0 : Int32)), (.int (0 : Int32)), (.int (0 : Int32)), (.int (0 : Int32)), (.int (0 : Int32)), (.int (0 : Int32)), (.int (0 : Int32)), (.int (0 : Int32)), (.int (0 : Int32)), (.int (0 : Int32)), (.int (0 : Int32)), (.int (0 : Int32)), (.int (0 : Int32))] (.int (0 : Int32)) := Arv.set Ar133 q133 S133 M133 Hh133 G133 (fits_nar_char _) W133 15 rfl (Nat.le_of_ble_eq_true rfl)
  have K133 : Keep h131 h133 [ar] := Keep.of_wr W133
  have KH134 : Keep h0 h133 [] := KH132.trans K133 (allS (Or.inr sz_ar) all0)
  have N133 := Fr.snoc X133 N131 g_ar
  obtain ⟨cl135, Ar135, q135, S135, M135, Hh135, G135⟩ := id V_ar_133
  obtain ⟨T135, h135, X135, e135, W135, st135⟩ := stC X133 hx hZ e133 Ar135 (j := (16 : Int32)) (inb_of S135 ⟨by decide, by decide⟩) (g := (mkF m 99 #[.val (.int pc)] [(.int (97 : Int32)), (.int (16 : Int32)), (.ref ar), (.ref ar)])) rfl rfl (hb hby dmgrPlus_99)
  have V_ar_135 : Arv Z h135 ar k101 .char (42 : Int32) [(.int (73 : Int32)), (.int (68 : Int32)), (.int (76 : Int32)), (.int (58 : Int32)), (.int (111 : Int32)), (.int (109 : Int32)), (.int (103 : Int32)), (.int (46 : Int32)), (.int (111 : Int32)), (.int (114 : Int32)), (.int (103 : Int32)), (.int (47 : Int32)), (.int (80 : Int32)), (.int (111 : Int32)), (.int (114 : Int32)), (.int (116 : Int32)), (.int (97 : Int32)), (.int (0 : Int32)), (.int (0 : Int32)), (.int (0 : Int32)), (.int (0 : Int32)), (.int (0 : Int32)), (.int (0 : Int32)), (.int (0 : Int32)), (.int (0 : Int32)), (.int (0 : Int32)), (.int (0 : Int32)), (.int (0 : Int32)), (.int (0 : Int32)), (.int (0 : Int32)), (.int (0 : Int32)), (.int (0 : Int32)), (.int (0 : Int32)), (.int (0 : Int32)), (.int (0 : Int32)), (.int (0 : Int32)), (.int (0 : Int32)), (.int (0 : Int32)), (.int (0 : Int32)), (.int (0 : Int32)), (.int (0 : Int32)), (.int (0 : Int32))] (.int (0 : Int32)) := Arv.set Ar135 q135 S135 M135 Hh135 G135 (fits_nar_char _) W135 16 rfl (Nat.le_of_ble_eq_true rfl)
  have K135 : Keep h133 h135 [ar] := Keep.of_wr W135
  have KH136 : Keep h0 h135 [] := KH134.trans K135 (allS (Or.inr sz_ar) all0)
  have N135 := Fr.snoc X135 N133 g_ar
  obtain ⟨cl137, Ar137, q137, S137, M137, Hh137, G137⟩ := id V_ar_135
  obtain ⟨T137, h137, X137, e137, W137, st137⟩ := stC X135 hx hZ e135 Ar137 (j := (17 : Int32)) (inb_of S137 ⟨by decide, by decide⟩) (g := (mkF m 105 #[.val (.int pc)] [(.int (98 : Int32)), (.int (17 : Int32)), (.ref ar), (.ref ar)])) rfl rfl (hb hby dmgrPlus_105)
  have V_ar_137 : Arv Z h137 ar k101 .char (42 : Int32) [(.int (73 : Int32)), (.int (68 : Int32)), (.int (76 : Int32)), (.int (58 : Int32)), (.int (111 : Int32)), (.int (109 : Int32)), (.int (103 : Int32)), (.int (46 : Int32)), (.int (111 : Int32)), (.int (114 : Int32)), (.int (103 : Int32)), (.int (47 : Int32)), (.int (80 : Int32)), (.int (111 : Int32)), (.int (114 : Int32)), (.int (116 : Int32)), (.int (97 : Int32)), (.int (98 : Int32)), (.int (0 : Int32)), (.int (0 : Int32)), (.int (0 : Int32)), (.int (0 : Int32)), (.int (0 : Int32)), (.int (0 : Int32)), (.int (0 : Int32)), (.int (0 : Int32)), (.int (0 : Int32)), (.int (0 : Int32)), (.int (0 : Int32)), (.int (0 : Int32)), (.int (0 : Int32)), (.int (0 : Int32)), (.int (0 : Int32)), (.int (0 : Int32)), (.int (0 : Int32)), (.int (0 : Int32)), (.int (0 : Int32)), (.int (0 : Int32)), (.int (0 : Int32)), (.int (0 : Int32)), (.int (0 : Int32)), (.int (0 : Int32))] (.int (0 : Int32)) := Arv.set Ar137 q137 S137 M137 Hh137 G137 (fits_nar_char _) W137 17 rfl (Nat.le_of_ble_eq_true rfl)
  have K137 : Keep h135 h137 [ar] := Keep.of_wr W137
  have KH138 : Keep h0 h137 [] := KH136.trans K137 (allS (Or.inr sz_ar) all0)
  have N137 := Fr.snoc X137 N135 g_ar
  obtain ⟨cl139, Ar139, q139, S139, M139, Hh139, G139⟩ := id V_ar_137
  obtain ⟨T139, h139, X139, e139, W139, st139⟩ := stC X137 hx hZ e137 Ar139 (j := (18 : Int32)) (inb_of S139 ⟨by decide, by decide⟩) (g := (mkF m 111 #[.val (.int pc)] [(.int (108 : Int32)), (.int (18 : Int32)), (.ref ar), (.ref ar)])) rfl rfl (hb hby dmgrPlus_111)
  have V_ar_139 : Arv Z h139 ar k101 .char (42 : Int32) [(.int (73 : Int32)), (.int (68 : Int32)), (.int (76 : Int32)), (.int (58 : Int32)), (.int (111 : Int32)), (.int (109 : Int32)), (.int (103 : Int32)), (.int (46 : Int32)), (.int (111 : Int32)), (.int (114 : Int32)), (.int (103 : Int32)), (.int (47 : Int32)), (.int (80 : Int32)), (.int (111 : Int32)), (.int (114 : Int32)), (.int (116 : Int32)), (.int (97 : Int32)), (.int (98 : Int32)), (.int (108 : Int32)), (.int (0 : Int32)), (.int (0 : Int32)), (.int (0 : Int32)), (.int (0 : Int32)), (.int (0 : Int32)), (.int (0 : Int32)), (.int (0 : Int32)), (.int (0 : Int32)), (.int (0 : Int32)), (.int (0 : Int32)), (.int (0 : Int32)), (.int (0 : Int32)), (.int (0 : Int32)), (.int (0 : Int32)), (.int (0 : Int32)), (.int (0 : Int32)), (.int (0 : Int32)), (.int (0 : Int32)), (.int (0 : Int32)), (.int (0 : Int32)), (.int (0 : Int32)), (.int (0 : Int32)), (.int (0 : Int32))] (.int (0 : Int32)) := Arv.set Ar139 q139 S139 M139 Hh139 G139 (fits_nar_char _) W139 18 rfl (Nat.le_of_ble_eq_true rfl)
  have K139 : Keep h137 h139 [ar] := Keep.of_wr W139
  have KH140 : Keep h0 h139 [] := KH138.trans K139 (allS (Or.inr sz_ar) all0)
  have N139 := Fr.snoc X139 N137 g_ar
  obtain ⟨cl141, Ar141, q141, S141, M141, Hh141, G141⟩ := id V_ar_139
  obtain ⟨T141, h141, X141, e141, W141, st141⟩ := stC X139 hx hZ e139 Ar141 (j := (19 : Int32)) (inb_of S141 ⟨by decide, by decide⟩) (g := (mkF m 117 #[.val (.int pc)] [(.int (101 : Int32)), (.int (19 : Int32)), (.ref ar), (.ref ar)])) rfl rfl (hb hby dmgrPlus_117)
  have V_ar_141 : Arv Z h141 ar k101 .char (42 : Int32) [(.int (73 : Int32)), (.int (68 : Int32)), (.int (76 : Int32)), (.int (58 : Int32)), (.int (111 : Int32)), (.int (109 : Int32)), (.int (103 : Int32)), (.int (46 : Int32)), (.int (111 : Int32)), (.int (114 : Int32)), (.int (103 : Int32)), (.int (47 : Int32)), (.int (80 : Int32)), (.int (111 : Int32)), (.int (114 : Int32)), (.int (116 : Int32)), (.int (97 : Int32)), (.int (98 : Int32)), (.int (108 : Int32)), (.int (101 : Int32)), (.int (0 : Int32)), (.int (0 : Int32)), (.int (0 : Int32)), (.int (0 : Int32)), (.int (0 : Int32)), (.int (0 : Int32)), (.int (0 : Int32)), (.int (0 : Int32)), (.int (0 : Int32)), (.int (0 : Int32)), (.int (0 : Int32)), (.int (0 : Int32)), (.int (0 : Int32)), (.int (0 : Int32)), (.int (0 : Int32)), (.int (0 : Int32)), (.int (0 : Int32)), (.int (0 : Int32)), (.int (0 : Int32)), (.int (0 : Int32)), (.int (0 : Int32)), (.int (0 : Int32))] (.int (0 : Int32)) := Arv.set Ar141 q141 S141 M141 Hh141 G141 (fits_nar_char _) W141 19 rfl (Nat.le_of_ble_eq_true rfl)
  have K141 : Keep h139 h141 [ar] := Keep.of_wr W141
  have KH142 : Keep h0 h141 [] := KH140.trans K141 (allS (Or.inr sz_ar) all0)
  have N141 := Fr.snoc X141 N139 g_ar
  obtain ⟨cl143, Ar143, q143, S143, M143, Hh143, G143⟩ := id V_ar_141
  obtain ⟨T143, h143, X143, e143, W143, st143⟩ := stC X141 hx hZ e141 Ar143 (j := (20 : Int32)) (inb_of S143 ⟨by decide, by decide⟩) (g := (mkF m 123 #[.val (.int pc)] [(.int (83 : Int32)), (.int (20 : Int32)), (.ref ar), (.ref ar)])) rfl rfl (hb hby dmgrPlus_123)
  have V_ar_143 : Arv Z h143 ar k101 .char (42 : Int32) [(.int (73 : Int32)), (.int (68 : Int32)), (.int (76 : Int32)), (.int (58 : Int32)), (.int (111 : Int32)), (.int (109 : Int32)), (.int (103 : Int32)), (.int (46 : Int32)), (.int (111 : Int32)), (.int (114 : Int32)), (.int (103 : Int32)), (.int (47 : Int32)), (.int (80 : Int32)), (.int (111 : Int32)), (.int (114 : Int32)), (.int (116 : Int32)), (.int (97 : Int32)), (.int (98 : Int32)), (.int (108 : Int32)), (.int (101 : Int32)), (.int (83 : Int32)), (.int (0 : Int32)), (.int (0 : Int32)), (.int (0 : Int32)), (.int (0 : Int32)), (.int (0 : Int32)), (.int (0 : Int32)), (.int (0 : Int32)), (.int (0 : Int32)), (.int (0 : Int32)), (.int (0 : Int32)), (.int (0 : Int32)), (.int (0 : Int32)), (.int (0 : Int32)), (.int (0 : Int32)), (.int (0 : Int32)), (.int (0 : Int32)), (.int (0 : Int32)), (.int (0 : Int32)), (.int (0 : Int32)), (.int (0 : Int32)), (.int (0 : Int32))] (.int (0 : Int32)) := Arv.set Ar143 q143 S143 M143 Hh143 G143 (fits_nar_char _) W143 20 rfl (Nat.le_of_ble_eq_true rfl)
  have K143 : Keep h141 h143 [ar] := Keep.of_wr W143
  have KH144 : Keep h0 h143 [] := KH142.trans K143 (allS (Or.inr sz_ar) all0)
  have N143 := Fr.snoc X143 N141 g_ar
  obtain ⟨cl145, Ar145, q145, S145, M145, Hh145, G145⟩ := id V_ar_143
  obtain ⟨T145, h145, X145, e145, W145, st145⟩ := stC X143 hx hZ e143 Ar145 (j := (21 : Int32)) (inb_of S145 ⟨by decide, by decide⟩) (g := (mkF m 129 #[.val (.int pc)] [(.int (101 : Int32)), (.int (21 : Int32)), (.ref ar), (.ref ar)])) rfl rfl (hb hby dmgrPlus_129)
  have V_ar_145 : Arv Z h145 ar k101 .char (42 : Int32) [(.int (73 : Int32)), (.int (68 : Int32)), (.int (76 : Int32)), (.int (58 : Int32)), (.int (111 : Int32)), (.int (109 : Int32)), (.int (103 : Int32)), (.int (46 : Int32)), (.int (111 : Int32)), (.int (114 : Int32)), (.int (103 : Int32)), (.int (47 : Int32)), (.int (80 : Int32)), (.int (111 : Int32)), (.int (114 : Int32)), (.int (116 : Int32)), (.int (97 : Int32)), (.int (98 : Int32)), (.int (108 : Int32)), (.int (101 : Int32)), (.int (83 : Int32)), (.int (101 : Int32)), (.int (0 : Int32)), (.int (0 : Int32)), (.int (0 : Int32)), (.int (0 : Int32)), (.int (0 : Int32)), (.int (0 : Int32)), (.int (0 : Int32)), (.int (0 : Int32)), (.int (0 : Int32)), (.int (0 : Int32)), (.int (0 : Int32)), (.int (0 : Int32)), (.int (0 : Int32)), (.int (0 : Int32)), (.int (0 : Int32)), (.int (0 : Int32)), (.int (0 : Int32)), (.int (0 : Int32)), (.int (0 : Int32)), (.int (0 : Int32))] (.int (0 : Int32)) := Arv.set Ar145 q145 S145 M145 Hh145 G145 (fits_nar_char _) W145 21 rfl (Nat.le_of_ble_eq_true rfl)
  have K145 : Keep h143 h145 [ar] := Keep.of_wr W145
  have KH146 : Keep h0 h145 [] := KH144.trans K145 (allS (Or.inr sz_ar) all0)
  have N145 := Fr.snoc X145 N143 g_ar
  obtain ⟨cl147, Ar147, q147, S147, M147, Hh147, G147⟩ := id V_ar_145
  obtain ⟨T147, h147, X147, e147, W147, st147⟩ := stC X145 hx hZ e145 Ar147 (j := (22 : Int32)) (inb_of S147 ⟨by decide, by decide⟩) (g := (mkF m 135 #[.val (.int pc)] [(.int (114 : Int32)), (.int (22 : Int32)), (.ref ar), (.ref ar)])) rfl rfl (hb hby dmgrPlus_135)
  have V_ar_147 : Arv Z h147 ar k101 .char (42 : Int32) [(.int (73 : Int32)), (.int (68 : Int32)), (.int (76 : Int32)), (.int (58 : Int32)), (.int (111 : Int32)), (.int (109 : Int32)), (.int (103 : Int32)), (.int (46 : Int32)), (.int (111 : Int32)), (.int (114 : Int32)), (.int (103 : Int32)), (.int (47 : Int32)), (.int (80 : Int32)), (.int (111 : Int32)), (.int (114 : Int32)), (.int (116 : Int32)), (.int (97 : Int32)), (.int (98 : Int32)), (.int (108 : Int32)), (.int (101 : Int32)), (.int (83 : Int32)), (.int (101 : Int32)), (.int (114 : Int32)), (.int (0 : Int32)), (.int (0 : Int32)), (.int (0 : Int32)), (.int (0 : Int32)), (.int (0 : Int32)), (.int (0 : Int32)), (.int (0 : Int32)), (.int (0 : Int32)), (.int (0 : Int32)), (.int (0 : Int32)), (.int (0 : Int32)), (.int (0 : Int32)), (.int (0 : Int32)), (.int (0 : Int32)), (.int (0 : Int32)), (.int (0 : Int32)), (.int (0 : Int32)), (.int (0 : Int32)), (.int (0 : Int32))] (.int (0 : Int32)) := Arv.set Ar147 q147 S147 M147 Hh147 G147 (fits_nar_char _) W147 22 rfl (Nat.le_of_ble_eq_true rfl)
  have K147 : Keep h145 h147 [ar] := Keep.of_wr W147
  have KH148 : Keep h0 h147 [] := KH146.trans K147 (allS (Or.inr sz_ar) all0)
  have N147 := Fr.snoc X147 N145 g_ar
  obtain ⟨cl149, Ar149, q149, S149, M149, Hh149, G149⟩ := id V_ar_147
  obtain ⟨T149, h149, X149, e149, W149, st149⟩ := stC X147 hx hZ e147 Ar149 (j := (23 : Int32)) (inb_of S149 ⟨by decide, by decide⟩) (g := (mkF m 141 #[.val (.int pc)] [(.int (118 : Int32)), (.int (23 : Int32)), (.ref ar), (.ref ar)])) rfl rfl (hb hby dmgrPlus_141)
  have V_ar_149 : Arv Z h149 ar k101 .char (42 : Int32) [(.int (73 : Int32)), (.int (68 : Int32)), (.int (76 : Int32)), (.int (58 : Int32)), (.int (111 : Int32)), (.int (109 : Int32)), (.int (103 : Int32)), (.int (46 : Int32)), (.int (111 : Int32)), (.int (114 : Int32)), (.int (103 : Int32)), (.int (47 : Int32)), (.int (80 : Int32)), (.int (111 : Int32)), (.int (114 : Int32)), (.int (116 : Int32)), (.int (97 : Int32)), (.int (98 : Int32)), (.int (108 : Int32)), (.int (101 : Int32)), (.int (83 : Int32)), (.int (101 : Int32)), (.int (114 : Int32)), (.int (118 : Int32)), (.int (0 : Int32)), (.int (0 : Int32)), (.int (0 : Int32)), (.int (0 : Int32)), (.int (0 : Int32)), (.int (0 : Int32)), (.int (0 : Int32)), (.int (0 : Int32)), (.int (0 : Int32)), (.int (0 : Int32)), (.int (0 : Int32)), (.int (0 : Int32)), (.int (0 : Int32)), (.int (0 : Int32)), (.int (0 : Int32)), (.int (0 : Int32)), (.int (0 : Int32)), (.int (0 : Int32))] (.int (0 : Int32)) := Arv.set Ar149 q149 S149 M149 Hh149 G149 (fits_nar_char _) W149 23 rfl (Nat.le_of_ble_eq_true rfl)
  have K149 : Keep h147 h149 [ar] := Keep.of_wr W149
  have KH150 : Keep h0 h149 [] := KH148.trans K149 (allS (Or.inr sz_ar) all0)
  have N149 := Fr.snoc X149 N147 g_ar
  obtain ⟨cl151, Ar151, q151, S151, M151, Hh151, G151⟩ := id V_ar_149
  obtain ⟨T151, h151, X151, e151, W151, st151⟩ := stC X149 hx hZ e149 Ar151 (j := (24 : Int32)) (inb_of S151 ⟨by decide, by decide⟩) (g := (mkF m 147 #[.val (.int pc)] [(.int (101 : Int32)), (.int (24 : Int32)), (.ref ar), (.ref ar)])) rfl rfl (hb hby dmgrPlus_147)
  have V_ar_151 : Arv Z h151 ar k101 .char (42 : Int32) [(.int (73 : Int32)), (.int (68 : Int32)), (.int (76 : Int32)), (.int (58 : Int32)), (.int (111 : Int32)), (.int (109 : Int32)), (.int (103 : Int32)), (.int (46 : Int32)), (.int (111 : Int32)), (.int (114 : Int32)), (.int (103 : Int32)), (.int (47 : Int32)), (.int (80 : Int32)), (.int (111 : Int32)), (.int (114 : Int32)), (.int (116 : Int32)), (.int (97 : Int32)), (.int (98 : Int32)), (.int (108 : Int32)), (.int (101 : Int32)), (.int (83 : Int32)), (.int (101 : Int32)), (.int (114 : Int32)), (.int (118 : Int32)), (.int (101 : Int32)), (.int (0 : Int32)), (.int (0 : Int32)), (.int (0 : Int32)), (.int (0 : Int32)), (.int (0 : Int32)), (.int (0 : Int32)), (.int (0 : Int32)), (.int (0 : Int32)), (.int (0 : Int32)), (.int (0 : Int32)), (.int (0 : Int32)), (.int (0 : Int32)), (.int (0 : Int32)), (.int (0 : Int32)), (.int (0 : Int32)), (.int (0 : Int32)), (.int (0 : Int32))] (.int (0 : Int32)) := Arv.set Ar151 q151 S151 M151 Hh151 G151 (fits_nar_char _) W151 24 rfl (Nat.le_of_ble_eq_true rfl)
  have K151 : Keep h149 h151 [ar] := Keep.of_wr W151
  have KH152 : Keep h0 h151 [] := KH150.trans K151 (allS (Or.inr sz_ar) all0)
  have N151 := Fr.snoc X151 N149 g_ar
  obtain ⟨cl153, Ar153, q153, S153, M153, Hh153, G153⟩ := id V_ar_151
  obtain ⟨T153, h153, X153, e153, W153, st153⟩ := stC X151 hx hZ e151 Ar153 (j := (25 : Int32)) (inb_of S153 ⟨by decide, by decide⟩) (g := (mkF m 153 #[.val (.int pc)] [(.int (114 : Int32)), (.int (25 : Int32)), (.ref ar), (.ref ar)])) rfl rfl (hb hby dmgrPlus_153)
  have V_ar_153 : Arv Z h153 ar k101 .char (42 : Int32) [(.int (73 : Int32)), (.int (68 : Int32)), (.int (76 : Int32)), (.int (58 : Int32)), (.int (111 : Int32)), (.int (109 : Int32)), (.int (103 : Int32)), (.int (46 : Int32)), (.int (111 : Int32)), (.int (114 : Int32)), (.int (103 : Int32)), (.int (47 : Int32)), (.int (80 : Int32)), (.int (111 : Int32)), (.int (114 : Int32)), (.int (116 : Int32)), (.int (97 : Int32)), (.int (98 : Int32)), (.int (108 : Int32)), (.int (101 : Int32)), (.int (83 : Int32)), (.int (101 : Int32)), (.int (114 : Int32)), (.int (118 : Int32)), (.int (101 : Int32)), (.int (114 : Int32)), (.int (0 : Int32)), (.int (0 : Int32)), (.int (0 : Int32)), (.int (0 : Int32)), (.int (0 : Int32)), (.int (0 : Int32)), (.int (0 : Int32)), (.int (0 : Int32)), (.int (0 : Int32)), (.int (0 : Int32)), (.int (0 : Int32)), (.int (0 : Int32)), (.int (0 : Int32)), (.int (0 : Int32)), (.int (0 : Int32)), (.int (0 : Int32))] (.int (0 : Int32)) := Arv.set Ar153 q153 S153 M153 Hh153 G153 (fits_nar_char _) W153 25 rfl (Nat.le_of_ble_eq_true rfl)
  have K153 : Keep h151 h153 [ar] := Keep.of_wr W153
  have KH154 : Keep h0 h153 [] := KH152.trans K153 (allS (Or.inr sz_ar) all0)
  have N153 := Fr.snoc X153 N151 g_ar
  obtain ⟨cl155, Ar155, q155, S155, M155, Hh155, G155⟩ := id V_ar_153
  obtain ⟨T155, h155, X155, e155, W155, st155⟩ := stC X153 hx hZ e153 Ar155 (j := (26 : Int32)) (inb_of S155 ⟨by decide, by decide⟩) (g := (mkF m 159 #[.val (.int pc)] [(.int (47 : Int32)), (.int (26 : Int32)), (.ref ar), (.ref ar)])) rfl rfl (hb hby dmgrPlus_159)
  have V_ar_155 : Arv Z h155 ar k101 .char (42 : Int32) [(.int (73 : Int32)), (.int (68 : Int32)), (.int (76 : Int32)), (.int (58 : Int32)), (.int (111 : Int32)), (.int (109 : Int32)), (.int (103 : Int32)), (.int (46 : Int32)), (.int (111 : Int32)), (.int (114 : Int32)), (.int (103 : Int32)), (.int (47 : Int32)), (.int (80 : Int32)), (.int (111 : Int32)), (.int (114 : Int32)), (.int (116 : Int32)), (.int (97 : Int32)), (.int (98 : Int32)), (.int (108 : Int32)), (.int (101 : Int32)), (.int (83 : Int32)), (.int (101 : Int32)), (.int (114 : Int32)), (.int (118 : Int32)), (.int (101 : Int32)), (.int (114 : Int32)), (.int (47 : Int32)), (.int (0 : Int32)), (.int (0 : Int32)), (.int (0 : Int32)), (.int (0 : Int32)), (.int (0 : Int32)), (.int (0 : Int32)), (.int (0 : Int32)), (.int (0 : Int32)), (.int (0 : Int32)), (.int (0 : Int32)), (.int (0 : Int32)), (.int (0 : Int32)), (.int (0 : Int32)), (.int (0 : Int32)), (.int (0 : Int32))] (.int (0 : Int32)) := Arv.set Ar155 q155 S155 M155 Hh155 G155 (fits_nar_char _) W155 26 rfl (Nat.le_of_ble_eq_true rfl)
  have K155 : Keep h153 h155 [ar] := Keep.of_wr W155
  have KH156 : Keep h0 h155 [] := KH154.trans K155 (allS (Or.inr sz_ar) all0)
  have N155 := Fr.snoc X155 N153 g_ar
  obtain ⟨cl157, Ar157, q157, S157, M157, Hh157, G157⟩ := id V_ar_155
  obtain ⟨T157, h157, X157, e157, W157, st157⟩ := stC X155 hx hZ e155 Ar157 (j := (27 : Int32)) (inb_of S157 ⟨by decide, by decide⟩) (g := (mkF m 165 #[.val (.int pc)] [(.int (80 : Int32)), (.int (27 : Int32)), (.ref ar), (.ref ar)])) rfl rfl (hb hby dmgrPlus_165)
  have V_ar_157 : Arv Z h157 ar k101 .char (42 : Int32) [(.int (73 : Int32)), (.int (68 : Int32)), (.int (76 : Int32)), (.int (58 : Int32)), (.int (111 : Int32)), (.int (109 : Int32)), (.int (103 : Int32)), (.int (46 : Int32)), (.int (111 : Int32)), (.int (114 : Int32)), (.int (103 : Int32)), (.int (47 : Int32)), (.int (80 : Int32)), (.int (111 : Int32)), (.int (114 : Int32)), (.int (116 : Int32)), (.int (97 : Int32)), (.int (98 : Int32)), (.int (108 : Int32)), (.int (101 : Int32)), (.int (83 : Int32)), (.int (101 : Int32)), (.int (114 : Int32)), (.int (118 : Int32)), (.int (101 : Int32)), (.int (114 : Int32)), (.int (47 : Int32)), (.int (80 : Int32)), (.int (0 : Int32)), (.int (0 : Int32)), (.int (0 : Int32)), (.int (0 : Int32)), (.int (0 : Int32)), (.int (0 : Int32)), (.int (0 : Int32)), (.int (0 : Int32)), (.int (0 : Int32)), (.int (0 : Int32)), (.int (0 : Int32)), (.int (0 : Int32)), (.int (0 : Int32)), (.int (0 : Int32))] (.int (0 : Int32)) := Arv.set Ar157 q157 S157 M157 Hh157 G157 (fits_nar_char _) W157 27 rfl (Nat.le_of_ble_eq_true rfl)
  have K157 : Keep h155 h157 [ar] := Keep.of_wr W157
  have KH158 : Keep h0 h157 [] := KH156.trans K157 (allS (Or.inr sz_ar) all0)
  have N157 := Fr.snoc X157 N155 g_ar
  obtain ⟨cl159, Ar159, q159, S159, M159, Hh159, G159⟩ := id V_ar_157
  obtain ⟨T159, h159, X159, e159, W159, st159⟩ := stC X157 hx hZ e157 Ar159 (j := (28 : Int32)) (inb_of S159 ⟨by decide, by decide⟩) (g := (mkF m 171 #[.val (.int pc)] [(.int (79 : Int32)), (.int (28 : Int32)), (.ref ar), (.ref ar)])) rfl rfl (hb hby dmgrPlus_171)
  have V_ar_159 : Arv Z h159 ar k101 .char (42 : Int32) [(.int (73 : Int32)), (.int (68 : Int32)), (.int (76 : Int32)), (.int (58 : Int32)), (.int (111 : Int32)), (.int (109 : Int32)), (.int (103 : Int32)), (.int (46 : Int32)), (.int (111 : Int32)), (.int (114 : Int32)), (.int (103 : Int32)), (.int (47 : Int32)), (.int (80 : Int32)), (.int (111 : Int32)), (.int (114 : Int32)), (.int (116 : Int32)), (.int (97 : Int32)), (.int (98 : Int32)), (.int (108 : Int32)), (.int (101 : Int32)), (.int (83 : Int32)), (.int (101 : Int32)), (.int (114 : Int32)), (.int (118 : Int32)), (.int (101 : Int32)), (.int (114 : Int32)), (.int (47 : Int32)), (.int (80 : Int32)), (.int (79 : Int32)), (.int (0 : Int32)), (.int (0 : Int32)), (.int (0 : Int32)), (.int (0 : Int32)), (.int (0 : Int32)), (.int (0 : Int32)), (.int (0 : Int32)), (.int (0 : Int32)), (.int (0 : Int32)), (.int (0 : Int32)), (.int (0 : Int32)), (.int (0 : Int32)), (.int (0 : Int32))] (.int (0 : Int32)) := Arv.set Ar159 q159 S159 M159 Hh159 G159 (fits_nar_char _) W159 28 rfl (Nat.le_of_ble_eq_true rfl)
  have K159 : Keep h157 h159 [ar] := Keep.of_wr W159
  have KH160 : Keep h0 h159 [] := KH158.trans K159 (allS (Or.inr sz_ar) all0)
  have N159 := Fr.snoc X159 N157 g_ar
  obtain ⟨cl161, Ar161, q161, S161, M161, Hh161, G161⟩ := id V_ar_159
  obtain ⟨T161, h161, X161, e161, W161, st161⟩ := stC X159 hx hZ e159 Ar161 (j := (29 : Int32)) (inb_of S161 ⟨by decide, by decide⟩) (g := (mkF m 177 #[.val (.int pc)] [(.int (65 : Int32)), (.int (29 : Int32)), (.ref ar), (.ref ar)])) rfl rfl (hb hby dmgrPlus_177)
  have V_ar_161 : Arv Z h161 ar k101 .char (42 : Int32) [(.int (73 : Int32)), (.int (68 : Int32)), (.int (76 : Int32)), (.int (58 : Int32)), (.int (111 : Int32)), (.int (109 : Int32)), (.int (103 : Int32)), (.int (46 : Int32)), (.int (111 : Int32)), (.int (114 : Int32)), (.int (103 : Int32)), (.int (47 : Int32)), (.int (80 : Int32)), (.int (111 : Int32)), (.int (114 : Int32)), (.int (116 : Int32)), (.int (97 : Int32)), (.int (98 : Int32)), (.int (108 : Int32)), (.int (101 : Int32)), (.int (83 : Int32)), (.int (101 : Int32)), (.int (114 : Int32)), (.int (118 : Int32)), (.int (101 : Int32)), (.int (114 : Int32)), (.int (47 : Int32)), (.int (80 : Int32)), (.int (79 : Int32)), (.int (65 : Int32)), (.int (0 : Int32)), (.int (0 : Int32)), (.int (0 : Int32)), (.int (0 : Int32)), (.int (0 : Int32)), (.int (0 : Int32)), (.int (0 : Int32)), (.int (0 : Int32)), (.int (0 : Int32)), (.int (0 : Int32)), (.int (0 : Int32)), (.int (0 : Int32))] (.int (0 : Int32)) := Arv.set Ar161 q161 S161 M161 Hh161 G161 (fits_nar_char _) W161 29 rfl (Nat.le_of_ble_eq_true rfl)
  have K161 : Keep h159 h161 [ar] := Keep.of_wr W161
  have KH162 : Keep h0 h161 [] := KH160.trans K161 (allS (Or.inr sz_ar) all0)
  have N161 := Fr.snoc X161 N159 g_ar
  obtain ⟨cl163, Ar163, q163, S163, M163, Hh163, G163⟩ := id V_ar_161
  obtain ⟨T163, h163, X163, e163, W163, st163⟩ := stC X161 hx hZ e161 Ar163 (j := (30 : Int32)) (inb_of S163 ⟨by decide, by decide⟩) (g := (mkF m 183 #[.val (.int pc)] [(.int (77 : Int32)), (.int (30 : Int32)), (.ref ar), (.ref ar)])) rfl rfl (hb hby dmgrPlus_183)
  have V_ar_163 : Arv Z h163 ar k101 .char (42 : Int32) [(.int (73 : Int32)), (.int (68 : Int32)), (.int (76 : Int32)), (.int (58 : Int32)), (.int (111 : Int32)), (.int (109 : Int32)), (.int (103 : Int32)), (.int (46 : Int32)), (.int (111 : Int32)), (.int (114 : Int32)), (.int (103 : Int32)), (.int (47 : Int32)), (.int (80 : Int32)), (.int (111 : Int32)), (.int (114 : Int32)), (.int (116 : Int32)), (.int (97 : Int32)), (.int (98 : Int32)), (.int (108 : Int32)), (.int (101 : Int32)), (.int (83 : Int32)), (.int (101 : Int32)), (.int (114 : Int32)), (.int (118 : Int32)), (.int (101 : Int32)), (.int (114 : Int32)), (.int (47 : Int32)), (.int (80 : Int32)), (.int (79 : Int32)), (.int (65 : Int32)), (.int (77 : Int32)), (.int (0 : Int32)), (.int (0 : Int32)), (.int (0 : Int32)), (.int (0 : Int32)), (.int (0 : Int32)), (.int (0 : Int32)), (.int (0 : Int32)), (.int (0 : Int32)), (.int (0 : Int32)), (.int (0 : Int32)), (.int (0 : Int32))] (.int (0 : Int32)) := Arv.set Ar163 q163 S163 M163 Hh163 G163 (fits_nar_char _) W163 30 rfl (Nat.le_of_ble_eq_true rfl)
  have K163 : Keep h161 h163 [ar] := Keep.of_wr W163
  have KH164 : Keep h0 h163 [] := KH162.trans K163 (allS (Or.inr sz_ar) all0)
  have N163 := Fr.snoc X163 N161 g_ar
  obtain ⟨cl165, Ar165, q165, S165, M165, Hh165, G165⟩ := id V_ar_163
  obtain ⟨T165, h165, X165, e165, W165, st165⟩ := stC X163 hx hZ e163 Ar165 (j := (31 : Int32)) (inb_of S165 ⟨by decide, by decide⟩) (g := (mkF m 189 #[.val (.int pc)] [(.int (97 : Int32)), (.int (31 : Int32)), (.ref ar), (.ref ar)])) rfl rfl (hb hby dmgrPlus_189)
  have V_ar_165 : Arv Z h165 ar k101 .char (42 : Int32) [(.int (73 : Int32)), (.int (68 : Int32)), (.int (76 : Int32)), (.int (58 : Int32)), (.int (111 : Int32)), (.int (109 : Int32)), (.int (103 : Int32)), (.int (46 : Int32)), (.int (111 : Int32)), (.int (114 : Int32)), (.int (103 : Int32)), (.int (47 : Int32)), (.int (80 : Int32)), (.int (111 : Int32)), (.int (114 : Int32)), (.int (116 : Int32)), (.int (97 : Int32)), (.int (98 : Int32)), (.int (108 : Int32)), (.int (101 : Int32)), (.int (83 : Int32)), (.int (101 : Int32)), (.int (114 : Int32)), (.int (118 : Int32)), (.int (101 : Int32)), (.int (114 : Int32)), (.int (47 : Int32)), (.int (80 : Int32)), (.int (79 : Int32)), (.int (65 : Int32)), (.int (77 : Int32)), (.int (97 : Int32)), (.int (0 : Int32)), (.int (0 : Int32)), (.int (0 : Int32)), (.int (0 : Int32)), (.int (0 : Int32)), (.int (0 : Int32)), (.int (0 : Int32)), (.int (0 : Int32)), (.int (0 : Int32)), (.int (0 : Int32))] (.int (0 : Int32)) := Arv.set Ar165 q165 S165 M165 Hh165 G165 (fits_nar_char _) W165 31 rfl (Nat.le_of_ble_eq_true rfl)
  have K165 : Keep h163 h165 [ar] := Keep.of_wr W165
  have KH166 : Keep h0 h165 [] := KH164.trans K165 (allS (Or.inr sz_ar) all0)
  have N165 := Fr.snoc X165 N163 g_ar
  obtain ⟨cl167, Ar167, q167, S167, M167, Hh167, G167⟩ := id V_ar_165
  obtain ⟨T167, h167, X167, e167, W167, st167⟩ := stC X165 hx hZ e165 Ar167 (j := (32 : Int32)) (inb_of S167 ⟨by decide, by decide⟩) (g := (mkF m 195 #[.val (.int pc)] [(.int (110 : Int32)), (.int (32 : Int32)), (.ref ar), (.ref ar)])) rfl rfl (hb hby dmgrPlus_195)
  have V_ar_167 : Arv Z h167 ar k101 .char (42 : Int32) [(.int (73 : Int32)), (.int (68 : Int32)), (.int (76 : Int32)), (.int (58 : Int32)), (.int (111 : Int32)), (.int (109 : Int32)), (.int (103 : Int32)), (.int (46 : Int32)), (.int (111 : Int32)), (.int (114 : Int32)), (.int (103 : Int32)), (.int (47 : Int32)), (.int (80 : Int32)), (.int (111 : Int32)), (.int (114 : Int32)), (.int (116 : Int32)), (.int (97 : Int32)), (.int (98 : Int32)), (.int (108 : Int32)), (.int (101 : Int32)), (.int (83 : Int32)), (.int (101 : Int32)), (.int (114 : Int32)), (.int (118 : Int32)), (.int (101 : Int32)), (.int (114 : Int32)), (.int (47 : Int32)), (.int (80 : Int32)), (.int (79 : Int32)), (.int (65 : Int32)), (.int (77 : Int32)), (.int (97 : Int32)), (.int (110 : Int32)), (.int (0 : Int32)), (.int (0 : Int32)), (.int (0 : Int32)), (.int (0 : Int32)), (.int (0 : Int32)), (.int (0 : Int32)), (.int (0 : Int32)), (.int (0 : Int32)), (.int (0 : Int32))] (.int (0 : Int32)) := Arv.set Ar167 q167 S167 M167 Hh167 G167 (fits_nar_char _) W167 32 rfl (Nat.le_of_ble_eq_true rfl)
  have K167 : Keep h165 h167 [ar] := Keep.of_wr W167
  have KH168 : Keep h0 h167 [] := KH166.trans K167 (allS (Or.inr sz_ar) all0)
  have N167 := Fr.snoc X167 N165 g_ar
  obtain ⟨cl169, Ar169, q169, S169, M169, Hh169, G169⟩ := id V_ar_167
  obtain ⟨T169, h169, X169, e169, W169, st169⟩ := stC X167 hx hZ e167 Ar169 (j := (33 : Int32)) (inb_of S169 ⟨by decide, by decide⟩) (g := (mkF m 201 #[.val (.int pc)] [(.int (97 : Int32)), (.int (33 : Int32)), (.ref ar), (.ref ar)])) rfl rfl (hb hby dmgrPlus_201)
  have V_ar_169 : Arv Z h169 ar k101 .char (42 : Int32) [(.int (73 : Int32)), (.int (68 : Int32)), (.int (76 : Int32)), (.int (58 : Int32)), (.int (111 : Int32)), (.int (109 : Int32)), (.int (103 : Int32)), (.int (46 : Int32)), (.int (111 : Int32)), (.int (114 : Int32)), (.int (103 : Int32)), (.int (47 : Int32)), (.int (80 : Int32)), (.int (111 : Int32)), (.int (114 : Int32)), (.int (116 : Int32)), (.int (97 : Int32)), (.int (98 : Int32)), (.int (108 : Int32)), (.int (101 : Int32)), (.int (83 : Int32)), (.int (101 : Int32)), (.int (114 : Int32)), (.int (118 : Int32)), (.int (101 : Int32)), (.int (114 : Int32)), (.int (47 : Int32)), (.int (80 : Int32)), (.int (79 : Int32)), (.int (65 : Int32)), (.int (77 : Int32)), (.int (97 : Int32)), (.int (110 : Int32)), (.int (97 : Int32)), (.int (0 : Int32)), (.int (0 : Int32)), (.int (0 : Int32)), (.int (0 : Int32)), (.int (0 : Int32)), (.int (0 : Int32)), (.int (0 : Int32)), (.int (0 : Int32))] (.int (0 : Int32)) := Arv.set Ar169 q169 S169 M169 Hh169 G169 (fits_nar_char _) W169 33 rfl (Nat.le_of_ble_eq_true rfl)
  have K169 : Keep h167 h169 [ar] := Keep.of_wr W169
  have KH170 : Keep h0 h169 [] := KH168.trans K169 (allS (Or.inr sz_ar) all0)
  have N169 := Fr.snoc X169 N167 g_ar
  obtain ⟨cl171, Ar171, q171, S171, M171, Hh171, G171⟩ := id V_ar_169
  obtain ⟨T171, h171, X171, e171, W171, st171⟩ := stC X169 hx hZ e169 Ar171 (j := (34 : Int32)) (inb_of S171 ⟨by decide, by decide⟩) (g := (mkF m 207 #[.val (.int pc)] [(.int (103 : Int32)), (.int (34 : Int32)), (.ref ar), (.ref ar)])) rfl rfl (hb hby dmgrPlus_207)
  have V_ar_171 : Arv Z h171 ar k101 .char (42 : Int32) [(.int (73 : Int32)), (.int (68 : Int32)), (.int (76 : Int32)), (.int (58 : Int32)), (.int (111 : Int32)), (.int (109 : Int32)), (.int (103 : Int32)), (.int (46 : Int32)), (.int (111 : Int32)), (.int (114 : Int32)), (.int (103 : Int32)), (.int (47 : Int32)), (.int (80 : Int32)), (.int (111 : Int32)), (.int (114 : Int32)), (.int (116 : Int32)), (.int (97 : Int32)), (.int (98 : Int32)), (.int (108 : Int32)), (.int (101 : Int32)), (.int (83 : Int32)), (.int (101 : Int32)), (.int (114 : Int32)), (.int (118 : Int32)), (.int (101 : Int32)), (.int (114 : Int32)), (.int (47 : Int32)), (.int (80 : Int32)), (.int (79 : Int32)), (.int (65 : Int32)), (.int (77 : Int32)), (.int (97 : Int32)), (.int (110 : Int32)), (.int (97 : Int32)), (.int (103 : Int32)), (.int (0 : Int32)), (.int (0 : Int32)), (.int (0 : Int32)), (.int (0 : Int32)), (.int (0 : Int32)), (.int (0 : Int32)), (.int (0 : Int32))] (.int (0 : Int32)) := Arv.set Ar171 q171 S171 M171 Hh171 G171 (fits_nar_char _) W171 34 rfl (Nat.le_of_ble_eq_true rfl)
  have K171 : Keep h169 h171 [ar] := Keep.of_wr W171
  have KH172 : Keep h0 h171 [] := KH170.trans K171 (allS (Or.inr sz_ar) all0)
  have N171 := Fr.snoc X171 N169 g_ar
  obtain ⟨cl173, Ar173, q173, S173, M173, Hh173, G173⟩ := id V_ar_171
  obtain ⟨T173, h173, X173, e173, W173, st173⟩ := stC X171 hx hZ e171 Ar173 (j := (35 : Int32)) (inb_of S173 ⟨by decide, by decide⟩) (g := (mkF m 213 #[.val (.int pc)] [(.int (101 : Int32)), (.int (35 : Int32)), (.ref ar), (.ref ar)])) rfl rfl (hb hby dmgrPlus_213)
  have V_ar_173 : Arv Z h173 ar k101 .char (42 : Int32) [(.int (73 : Int32)), (.int (68 : Int32)), (.int (76 : Int32)), (.int (58 : Int32)), (.int (111 : Int32)), (.int (109 : Int32)), (.int (103 : Int32)), (.int (46 : Int32)), (.int (111 : Int32)), (.int (114 : Int32)), (.int (103 : Int32)), (.int (47 : Int32)), (.int (80 : Int32)), (.int (111 : Int32)), (.int (114 : Int32)), (.int (116 : Int32)), (.int (97 : Int32)), (.int (98 : Int32)), (.int (108 : Int32)), (.int (101 : Int32)), (.int (83 : Int32)), (.int (101 : Int32)), (.int (114 : Int32)), (.int (118 : Int32)), (.int (101 : Int32)), (.int (114 : Int32)), (.int (47 : Int32)), (.int (80 : Int32)), (.int (79 : Int32)), (.int (65 : Int32)), (.int (77 : Int32)), (.int (97 : Int32)), (.int (110 : Int32)), (.int (97 : Int32)), (.int (103 : Int32)), (.int (101 : Int32)), (.int (0 : Int32)), (.int (0 : Int32)), (.int (0 : Int32)), (.int (0 : Int32)), (.int (0 : Int32)), (.int (0 : Int32))] (.int (0 : Int32)) := Arv.set Ar173 q173 S173 M173 Hh173 G173 (fits_nar_char _) W173 35 rfl (Nat.le_of_ble_eq_true rfl)
  have K173 : Keep h171 h173 [ar] := Keep.of_wr W173
  have KH174 : Keep h0 h173 [] := KH172.trans K173 (allS (Or.inr sz_ar) all0)
  have N173 := Fr.snoc X173 N171 g_ar
  obtain ⟨cl175, Ar175, q175, S175, M175, Hh175, G175⟩ := id V_ar_173
  obtain ⟨T175, h175, X175, e175, W175, st175⟩ := stC X173 hx hZ e173 Ar175 (j := (36 : Int32)) (inb_of S175 ⟨by decide, by decide⟩) (g := (mkF m 219 #[.val (.int pc)] [(.int (114 : Int32)), (.int (36 : Int32)), (.ref ar), (.ref ar)])) rfl rfl (hb hby dmgrPlus_219)
  have V_ar_175 : Arv Z h175 ar k101 .char (42 : Int32) [(.int (73 : Int32)), (.int (68 : Int32)), (.int (76 : Int32)), (.int (58 : Int32)), (.int (111 : Int32)), (.int (109 : Int32)), (.int (103 : Int32)), (.int (46 : Int32)), (.int (111 : Int32)), (.int (114 : Int32)), (.int (103 : Int32)), (.int (47 : Int32)), (.int (80 : Int32)), (.int (111 : Int32)), (.int (114 : Int32)), (.int (116 : Int32)), (.int (97 : Int32)), (.int (98 : Int32)), (.int (108 : Int32)), (.int (101 : Int32)), (.int (83 : Int32)), (.int (101 : Int32)), (.int (114 : Int32)), (.int (118 : Int32)), (.int (101 : Int32)), (.int (114 : Int32)), (.int (47 : Int32)), (.int (80 : Int32)), (.int (79 : Int32)), (.int (65 : Int32)), (.int (77 : Int32)), (.int (97 : Int32)), (.int (110 : Int32)), (.int (97 : Int32)), (.int (103 : Int32)), (.int (101 : Int32)), (.int (114 : Int32)), (.int (0 : Int32)), (.int (0 : Int32)), (.int (0 : Int32)), (.int (0 : Int32)), (.int (0 : Int32))] (.int (0 : Int32)) := Arv.set Ar175 q175 S175 M175 Hh175 G175 (fits_nar_char _) W175 36 rfl (Nat.le_of_ble_eq_true rfl)
  have K175 : Keep h173 h175 [ar] := Keep.of_wr W175
  have KH176 : Keep h0 h175 [] := KH174.trans K175 (allS (Or.inr sz_ar) all0)
  have N175 := Fr.snoc X175 N173 g_ar
  obtain ⟨cl177, Ar177, q177, S177, M177, Hh177, G177⟩ := id V_ar_175
  obtain ⟨T177, h177, X177, e177, W177, st177⟩ := stC X175 hx hZ e175 Ar177 (j := (37 : Int32)) (inb_of S177 ⟨by decide, by decide⟩) (g := (mkF m 225 #[.val (.int pc)] [(.int (58 : Int32)), (.int (37 : Int32)), (.ref ar), (.ref ar)])) rfl rfl (hb hby dmgrPlus_225)
  have V_ar_177 : Arv Z h177 ar k101 .char (42 : Int32) [(.int (73 : Int32)), (.int (68 : Int32)), (.int (76 : Int32)), (.int (58 : Int32)), (.int (111 : Int32)), (.int (109 : Int32)), (.int (103 : Int32)), (.int (46 : Int32)), (.int (111 : Int32)), (.int (114 : Int32)), (.int (103 : Int32)), (.int (47 : Int32)), (.int (80 : Int32)), (.int (111 : Int32)), (.int (114 : Int32)), (.int (116 : Int32)), (.int (97 : Int32)), (.int (98 : Int32)), (.int (108 : Int32)), (.int (101 : Int32)), (.int (83 : Int32)), (.int (101 : Int32)), (.int (114 : Int32)), (.int (118 : Int32)), (.int (101 : Int32)), (.int (114 : Int32)), (.int (47 : Int32)), (.int (80 : Int32)), (.int (79 : Int32)), (.int (65 : Int32)), (.int (77 : Int32)), (.int (97 : Int32)), (.int (110 : Int32)), (.int (97 : Int32)), (.int (103 : Int32)), (.int (101 : Int32)), (.int (114 : Int32)), (.int (58 : Int32)), (.int (0 : Int32)), (.int (0 : Int32)), (.int (0 : Int32)), (.int (0 : Int32))] (.int (0 : Int32)) := Arv.set Ar177 q177 S177 M177 Hh177 G177 (fits_nar_char _) W177 37 rfl (Nat.le_of_ble_eq_true rfl)
  have K177 : Keep h175 h177 [ar] := Keep.of_wr W177
  have KH178 : Keep h0 h177 [] := KH176.trans K177 (allS (Or.inr sz_ar) all0)
  have N177 := Fr.snoc X177 N175 g_ar
  obtain ⟨cl179, Ar179, q179, S179, M179, Hh179, G179⟩ := id V_ar_177
  obtain ⟨T179, h179, X179, e179, W179, st179⟩ := stC X177 hx hZ e177 Ar179 (j := (38 : Int32)) (inb_of S179 ⟨by decide, by decide⟩) (g := (mkF m 231 #[.val (.int pc)] [(.int (50 : Int32)), (.int (38 : Int32)), (.ref ar), (.ref ar)])) rfl rfl (hb hby dmgrPlus_231)
  have V_ar_179 : Arv Z h179 ar k101 .char (42 : Int32) [(.int (73 : Int32)), (.int (68 : Int32)), (.int (76 : Int32)), (.int (58 : Int32)), (.int (111 : Int32)), (.int (109 : Int32)), (.int (103 : Int32)), (.int (46 : Int32)), (.int (111 : Int32)), (.int (114 : Int32)), (.int (103 : Int32)), (.int (47 : Int32)), (.int (80 : Int32)), (.int (111 : Int32)), (.int (114 : Int32)), (.int (116 : Int32)), (.int (97 : Int32)), (.int (98 : Int32)), (.int (108 : Int32)), (.int (101 : Int32)), (.int (83 : Int32)), (.int (101 : Int32)), (.int (114 : Int32)), (.int (118 : Int32)), (.int (101 : Int32)), (.int (114 : Int32)), (.int (47 : Int32)), (.int (80 : Int32)), (.int (79 : Int32)), (.int (65 : Int32)), (.int (77 : Int32)), (.int (97 : Int32)), (.int (110 : Int32)), (.int (97 : Int32)), (.int (103 : Int32)), (.int (101 : Int32)), (.int (114 : Int32)), (.int (58 : Int32)), (.int (50 : Int32)), (.int (0 : Int32)), (.int (0 : Int32)), (.int (0 : Int32))] (.int (0 : Int32)) := Arv.set Ar179 q179 S179 M179 Hh179 G179 (fits_nar_char _) W179 38 rfl (Nat.le_of_ble_eq_true rfl)
  have K179 : Keep h177 h179 [ar] := Keep.of_wr W179
  have KH180 : Keep h0 h179 [] := KH178.trans K179 (allS (Or.inr sz_ar) all0)
  have N179 := Fr.snoc X179 N177 g_ar
  obtain ⟨cl181, Ar181, q181, S181, M181, Hh181, G181⟩ := id V_ar_179
  obtain ⟨T181, h181, X181, e181, W181, st181⟩ := stC X179 hx hZ e179 Ar181 (j := (39 : Int32)) (inb_of S181 ⟨by decide, by decide⟩) (g := (mkF m 237 #[.val (.int pc)] [(.int (46 : Int32)), (.int (39 : Int32)), (.ref ar), (.ref ar)])) rfl rfl (hb hby dmgrPlus_237)
  have V_ar_181 : Arv Z h181 ar k101 .char (42 : Int32) [(.int (73 : Int32)), (.int (68 : Int32)), (.int (76 : Int32)), (.int (58 : Int32)), (.int (111 : Int32)), (.int (109 : Int32)), (.int (103 : Int32)), (.int (46 : Int32)), (.int (111 : Int32)), (.int (114 : Int32)), (.int (103 : Int32)), (.int (47 : Int32)), (.int (80 : Int32)), (.int (111 : Int32)), (.int (114 : Int32)), (.int (116 : Int32)), (.int (97 : Int32)), (.int (98 : Int32)), (.int (108 : Int32)), (.int (101 : Int32)), (.int (83 : Int32)), (.int (101 : Int32)), (.int (114 : Int32)), (.int (118 : Int32)), (.int (101 : Int32)), (.int (114 : Int32)), (.int (47 : Int32)), (.int (80 : Int32)), (.int (79 : Int32)), (.int (65 : Int32)), (.int (77 : Int32)), (.int (97 : Int32)), (.int (110 : Int32)), (.int (97 : Int32)), (.int (103 : Int32)), (.int (101 : Int32)), (.int (114 : Int32)), (.int (58 : Int32)), (.int (50 : Int32)), (.int (46 : Int32)), (.int (0 : Int32)), (.int (0 : Int32))] (.int (0 : Int32)) := Arv.set Ar181 q181 S181 M181 Hh181 G181 (fits_nar_char _) W181 39 rfl (Nat.le_of_ble_eq_true rfl)
  have K181 : Keep h179 h181 [ar] := Keep.of_wr W181
  have KH182 : Keep h0 h181 [] := KH180.trans K181 (allS (Or.inr sz_ar) all0)
  have N181 := Fr.snoc X181 N179 g_ar
  obtain ⟨cl183, Ar183, q183, S183, M183, Hh183, G183⟩ := id V_ar_181
  obtain ⟨T183, h183, X183, e183, W183, st183⟩ := stC X181 hx hZ e181 Ar183 (j := (40 : Int32)) (inb_of S183 ⟨by decide, by decide⟩) (g := (mkF m 243 #[.val (.int pc)] [(.int (51 : Int32)), (.int (40 : Int32)), (.ref ar), (.ref ar)])) rfl rfl (hb hby dmgrPlus_243)
  have V_ar_183 : Arv Z h183 ar k101 .char (42 : Int32) [(.int (73 : Int32)), (.int (68 : Int32)), (.int (76 : Int32)), (.int (58 : Int32)), (.int (111 : Int32)), (.int (109 : Int32)), (.int (103 : Int32)), (.int (46 : Int32)), (.int (111 : Int32)), (.int (114 : Int32)), (.int (103 : Int32)), (.int (47 : Int32)), (.int (80 : Int32)), (.int (111 : Int32)), (.int (114 : Int32)), (.int (116 : Int32)), (.int (97 : Int32)), (.int (98 : Int32)), (.int (108 : Int32)), (.int (101 : Int32)), (.int (83 : Int32)), (.int (101 : Int32)), (.int (114 : Int32)), (.int (118 : Int32)), (.int (101 : Int32)), (.int (114 : Int32)), (.int (47 : Int32)), (.int (80 : Int32)), (.int (79 : Int32)), (.int (65 : Int32)), (.int (77 : Int32)), (.int (97 : Int32)), (.int (110 : Int32)), (.int (97 : Int32)), (.int (103 : Int32)), (.int (101 : Int32)), (.int (114 : Int32)), (.int (58 : Int32)), (.int (50 : Int32)), (.int (46 : Int32)), (.int (51 : Int32)), (.int (0 : Int32))] (.int (0 : Int32)) := Arv.set Ar183 q183 S183 M183 Hh183 G183 (fits_nar_char _) W183 40 rfl (Nat.le_of_ble_eq_true rfl)
  have K183 : Keep h181 h183 [ar] := Keep.of_wr W183
  have KH184 : Keep h0 h183 [] := KH182.trans K183 (allS (Or.inr sz_ar) all0)
  have N183 := Fr.snoc X183 N181 g_ar
  obtain ⟨cl185, Ar185, q185, S185, M185, Hh185, G185⟩ := id V_ar_183
  obtain ⟨T185, h185, X185, e185, W185, st185⟩ := stC X183 hx hZ e183 Ar185 (j := (41 : Int32)) (inb_of S185 ⟨by decide, by decide⟩) (g := (mkF m 248 #[.val (.int pc)] [(.int pc), (.int (41 : Int32)), (.ref ar), (.ref ar)])) rfl rfl (hb hby dmgrPlus_248)
  have V_ar_185 : Arv Z h185 ar k101 .char (42 : Int32) [(.int (73 : Int32)), (.int (68 : Int32)), (.int (76 : Int32)), (.int (58 : Int32)), (.int (111 : Int32)), (.int (109 : Int32)), (.int (103 : Int32)), (.int (46 : Int32)), (.int (111 : Int32)), (.int (114 : Int32)), (.int (103 : Int32)), (.int (47 : Int32)), (.int (80 : Int32)), (.int (111 : Int32)), (.int (114 : Int32)), (.int (116 : Int32)), (.int (97 : Int32)), (.int (98 : Int32)), (.int (108 : Int32)), (.int (101 : Int32)), (.int (83 : Int32)), (.int (101 : Int32)), (.int (114 : Int32)), (.int (118 : Int32)), (.int (101 : Int32)), (.int (114 : Int32)), (.int (47 : Int32)), (.int (80 : Int32)), (.int (79 : Int32)), (.int (65 : Int32)), (.int (77 : Int32)), (.int (97 : Int32)), (.int (110 : Int32)), (.int (97 : Int32)), (.int (103 : Int32)), (.int (101 : Int32)), (.int (114 : Int32)), (.int (58 : Int32)), (.int (50 : Int32)), (.int (46 : Int32)), (.int (51 : Int32)), (.int (nar .char pc))] (.int (0 : Int32)) := Arv.set Ar185 q185 S185 M185 Hh185 G185 (fits_nar_char _) W185 41 rfl (Nat.le_of_ble_eq_true rfl)
  have K185 : Keep h183 h185 [ar] := Keep.of_wr W185
  have KH186 : Keep h0 h185 [] := KH184.trans K185 (allS (Or.inr sz_ar) all0)
  have N185 := Fr.snoc X185 N183 g_ar
  obtain ⟨fs, hr, hrun, hended, hW, hsame⟩ := X185.leave (v := some (.ref ar)) (fun h => by rw [Bd.returns] at h; cases h)
  refine ⟨_, _, go0 _ ?_, hrun, hended, _, _, rfl, ?_, ⟨_, rfl⟩, hW, hsame.mono (by decide) (by decide)⟩
  · show Steps p.tables e below (s₁.setTop (mkF m 0 #[.val (.int pc)] [])) _
    refine XS.bipush X0.here hx rfl (hb hby dmgrPlus_0) ?_
    show Steps p.tables e below (s₁.setTop (mkF m 2 #[.val (.int pc)] [(.int (42 : Int32))])) _
    refine st101 _ ?_
    show Steps p.tables e below (T101.setTop (mkF m 4 #[.val (.int pc)] [(.ref ar)])) _
    refine XS.dup X101.here hx rfl (hb hby dmgrPlus_4) rfl rfl ?_
    show Steps p.tables e below (T101.setTop (mkF m 5 #[.val (.int pc)] [(.ref ar), (.ref ar)])) _
    refine XS.iconst X101.here hx rfl (hb hby dmgrPlus_5) ?_
    show Steps p.tables e below (T101.setTop (mkF m 6 #[.val (.int pc)] [(.int (0 : Int32)), (.ref ar), (.ref ar)])) _
    refine XS.bipush X101.here hx rfl (hb hby dmgrPlus_6) ?_
    show Steps p.tables e below (T101.setTop (mkF m 8 #[.val (.int pc)] [(.int (73 : Int32)), (.int (0 : Int32)), (.ref ar), (.ref ar)])) _
    refine st103 _ ?_
    show Steps p.tables e below (T103.setTop (mkF m 9 #[.val (.int pc)] [(.ref ar)])) _
    refine XS.dup X103.here hx rfl (hb hby dmgrPlus_9) rfl rfl ?_
    show Steps p.tables e below (T103.setTop (mkF m 10 #[.val (.int pc)] [(.ref ar), (.ref ar)])) _
    refine XS.iconst X103.here hx rfl (hb hby dmgrPlus_10) ?_
    show Steps p.tables e below (T103.setTop (mkF m 11 #[.val (.int pc)] [(.int (1 : Int32)), (.ref ar), (.ref ar)])) _
    refine XS.bipush X103.here hx rfl (hb hby dmgrPlus_11) ?_
    show Steps p.tables e below (T103.setTop (mkF m 13 #[.val (.int pc)] [(.int (68 : Int32)), (.int (1 : Int32)), (.ref ar), (.ref ar)])) _
    refine st105 _ ?_
    show Steps p.tables e below (T105.setTop (mkF m 14 #[.val (.int pc)] [(.ref ar)])) _
    refine XS.dup X105.here hx rfl (hb hby dmgrPlus_14) rfl rfl ?_
    show Steps p.tables e below (T105.setTop (mkF m 15 #[.val (.int pc)] [(.ref ar), (.ref ar)])) _
    refine XS.iconst X105.here hx rfl (hb hby dmgrPlus_15) ?_
    show Steps p.tables e below (T105.setTop (mkF m 16 #[.val (.int pc)] [(.int (2 : Int32)), (.ref ar), (.ref ar)])) _
    refine XS.bipush X105.here hx rfl (hb hby dmgrPlus_16) ?_
    show Steps p.tables e below (T105.setTop (mkF m 18 #[.val (.int pc)] [(.int (76 : Int32)), (.int (2 : Int32)), (.ref ar), (.ref ar)])) _
    refine st107 _ ?_
    show Steps p.tables e below (T107.setTop (mkF m 19 #[.val (.int pc)] [(.ref ar)])) _
    refine XS.dup X107.here hx rfl (hb hby dmgrPlus_19) rfl rfl ?_
    show Steps p.tables e below (T107.setTop (mkF m 20 #[.val (.int pc)] [(.ref ar), (.ref ar)])) _
    refine XS.iconst X107.here hx rfl (hb hby dmgrPlus_20) ?_
    show Steps p.tables e below (T107.setTop (mkF m 21 #[.val (.int pc)] [(.int (3 : Int32)), (.ref ar), (.ref ar)])) _
    refine XS.bipush X107.here hx rfl (hb hby dmgrPlus_21) ?_
    show Steps p.tables e below (T107.setTop (mkF m 23 #[.val (.int pc)] [(.int (58 : Int32)), (.int (3 : Int32)), (.ref ar), (.ref ar)])) _
    refine st109 _ ?_
    show Steps p.tables e below (T109.setTop (mkF m 24 #[.val (.int pc)] [(.ref ar)])) _
    refine XS.dup X109.here hx rfl (hb hby dmgrPlus_24) rfl rfl ?_
    show Steps p.tables e below (T109.setTop (mkF m 25 #[.val (.int pc)] [(.ref ar), (.ref ar)])) _
    refine XS.iconst X109.here hx rfl (hb hby dmgrPlus_25) ?_
    show Steps p.tables e below (T109.setTop (mkF m 26 #[.val (.int pc)] [(.int (4 : Int32)), (.ref ar), (.ref ar)])) _
    refine XS.bipush X109.here hx rfl (hb hby dmgrPlus_26) ?_
    show Steps p.tables e below (T109.setTop (mkF m 28 #[.val (.int pc)] [(.int (111 : Int32)), (.int (4 : Int32)), (.ref ar), (.ref ar)])) _
    refine st111 _ ?_
    show Steps p.tables e below (T111.setTop (mkF m 29 #[.val (.int pc)] [(.ref ar)])) _
    refine XS.dup X111.here hx rfl (hb hby dmgrPlus_29) rfl rfl ?_
    show Steps p.tables e below (T111.setTop (mkF m 30 #[.val (.int pc)] [(.ref ar), (.ref ar)])) _
    refine XS.iconst X111.here hx rfl (hb hby dmgrPlus_30) ?_
    show Steps p.tables e below (T111.setTop (mkF m 31 #[.val (.int pc)] [(.int (5 : Int32)), (.ref ar), (.ref ar)])) _
    refine XS.bipush X111.here hx rfl (hb hby dmgrPlus_31) ?_
    show Steps p.tables e below (T111.setTop (mkF m 33 #[.val (.int pc)] [(.int (109 : Int32)), (.int (5 : Int32)), (.ref ar), (.ref ar)])) _
    refine st113 _ ?_
    show Steps p.tables e below (T113.setTop (mkF m 34 #[.val (.int pc)] [(.ref ar)])) _
    refine XS.dup X113.here hx rfl (hb hby dmgrPlus_34) rfl rfl ?_
    show Steps p.tables e below (T113.setTop (mkF m 35 #[.val (.int pc)] [(.ref ar), (.ref ar)])) _
    refine XS.bipush X113.here hx rfl (hb hby dmgrPlus_35) ?_
    show Steps p.tables e below (T113.setTop (mkF m 37 #[.val (.int pc)] [(.int (6 : Int32)), (.ref ar), (.ref ar)])) _
    refine XS.bipush X113.here hx rfl (hb hby dmgrPlus_37) ?_
    show Steps p.tables e below (T113.setTop (mkF m 39 #[.val (.int pc)] [(.int (103 : Int32)), (.int (6 : Int32)), (.ref ar), (.ref ar)])) _
    refine st115 _ ?_
    show Steps p.tables e below (T115.setTop (mkF m 40 #[.val (.int pc)] [(.ref ar)])) _
    refine XS.dup X115.here hx rfl (hb hby dmgrPlus_40) rfl rfl ?_
    show Steps p.tables e below (T115.setTop (mkF m 41 #[.val (.int pc)] [(.ref ar), (.ref ar)])) _
    refine XS.bipush X115.here hx rfl (hb hby dmgrPlus_41) ?_
    show Steps p.tables e below (T115.setTop (mkF m 43 #[.val (.int pc)] [(.int (7 : Int32)), (.ref ar), (.ref ar)])) _
    refine XS.bipush X115.here hx rfl (hb hby dmgrPlus_43) ?_
    show Steps p.tables e below (T115.setTop (mkF m 45 #[.val (.int pc)] [(.int (46 : Int32)), (.int (7 : Int32)), (.ref ar), (.ref ar)])) _
    refine st117 _ ?_
    show Steps p.tables e below (T117.setTop (mkF m 46 #[.val (.int pc)] [(.ref ar)])) _
    refine XS.dup X117.here hx rfl (hb hby dmgrPlus_46) rfl rfl ?_
    show Steps p.tables e below (T117.setTop (mkF m 47 #[.val (.int pc)] [(.ref ar), (.ref ar)])) _
    refine XS.bipush X117.here hx rfl (hb hby dmgrPlus_47) ?_
    show Steps p.tables e below (T117.setTop (mkF m 49 #[.val (.int pc)] [(.int (8 : Int32)), (.ref ar), (.ref ar)])) _
    refine XS.bipush X117.here hx rfl (hb hby dmgrPlus_49) ?_
    show Steps p.tables e below (T117.setTop (mkF m 51 #[.val (.int pc)] [(.int (111 : Int32)), (.int (8 : Int32)), (.ref ar), (.ref ar)])) _
    refine st119 _ ?_
    show Steps p.tables e below (T119.setTop (mkF m 52 #[.val (.int pc)] [(.ref ar)])) _
    refine XS.dup X119.here hx rfl (hb hby dmgrPlus_52) rfl rfl ?_
    show Steps p.tables e below (T119.setTop (mkF m 53 #[.val (.int pc)] [(.ref ar), (.ref ar)])) _
    refine XS.bipush X119.here hx rfl (hb hby dmgrPlus_53) ?_
    show Steps p.tables e below (T119.setTop (mkF m 55 #[.val (.int pc)] [(.int (9 : Int32)), (.ref ar), (.ref ar)])) _
    refine XS.bipush X119.here hx rfl (hb hby dmgrPlus_55) ?_
    show Steps p.tables e below (T119.setTop (mkF m 57 #[.val (.int pc)] [(.int (114 : Int32)), (.int (9 : Int32)), (.ref ar), (.ref ar)])) _
    refine st121 _ ?_
    show Steps p.tables e below (T121.setTop (mkF m 58 #[.val (.int pc)] [(.ref ar)])) _
    refine XS.dup X121.here hx rfl (hb hby dmgrPlus_58) rfl rfl ?_
    show Steps p.tables e below (T121.setTop (mkF m 59 #[.val (.int pc)] [(.ref ar), (.ref ar)])) _
    refine XS.bipush X121.here hx rfl (hb hby dmgrPlus_59) ?_
    show Steps p.tables e below (T121.setTop (mkF m 61 #[.val (.int pc)] [(.int (10 : Int32)), (.ref ar), (.ref ar)])) _
    refine XS.bipush X121.here hx rfl (hb hby dmgrPlus_61) ?_
    show Steps p.tables e below (T121.setTop (mkF m 63 #[.val (.int pc)] [(.int (103 : Int32)), (.int (10 : Int32)), (.ref ar), (.ref ar)])) _
    refine st123 _ ?_
    show Steps p.tables e below (T123.setTop (mkF m 64 #[.val (.int pc)] [(.ref ar)])) _
    refine XS.dup X123.here hx rfl (hb hby dmgrPlus_64) rfl rfl ?_
    show Steps p.tables e below (T123.setTop (mkF m 65 #[.val (.int pc)] [(.ref ar), (.ref ar)])) _
    refine XS.bipush X123.here hx rfl (hb hby dmgrPlus_65) ?_
    show Steps p.tables e below (T123.setTop (mkF m 67 #[.val (.int pc)] [(.int (11 : Int32)), (.ref ar), (.ref ar)])) _
    refine XS.bipush X123.here hx rfl (hb hby dmgrPlus_67) ?_
    show Steps p.tables e below (T123.setTop (mkF m 69 #[.val (.int pc)] [(.int (47 : Int32)), (.int (11 : Int32)), (.ref ar), (.ref ar)])) _
    refine st125 _ ?_
    show Steps p.tables e below (T125.setTop (mkF m 70 #[.val (.int pc)] [(.ref ar)])) _
    refine XS.dup X125.here hx rfl (hb hby dmgrPlus_70) rfl rfl ?_
    show Steps p.tables e below (T125.setTop (mkF m 71 #[.val (.int pc)] [(.ref ar), (.ref ar)])) _
    refine XS.bipush X125.here hx rfl (hb hby dmgrPlus_71) ?_
    show Steps p.tables e below (T125.setTop (mkF m 73 #[.val (.int pc)] [(.int (12 : Int32)), (.ref ar), (.ref ar)])) _
    refine XS.bipush X125.here hx rfl (hb hby dmgrPlus_73) ?_
    show Steps p.tables e below (T125.setTop (mkF m 75 #[.val (.int pc)] [(.int (80 : Int32)), (.int (12 : Int32)), (.ref ar), (.ref ar)])) _
    refine st127 _ ?_
    show Steps p.tables e below (T127.setTop (mkF m 76 #[.val (.int pc)] [(.ref ar)])) _
    refine XS.dup X127.here hx rfl (hb hby dmgrPlus_76) rfl rfl ?_
    show Steps p.tables e below (T127.setTop (mkF m 77 #[.val (.int pc)] [(.ref ar), (.ref ar)])) _
    refine XS.bipush X127.here hx rfl (hb hby dmgrPlus_77) ?_
    show Steps p.tables e below (T127.setTop (mkF m 79 #[.val (.int pc)] [(.int (13 : Int32)), (.ref ar), (.ref ar)])) _
    refine XS.bipush X127.here hx rfl (hb hby dmgrPlus_79) ?_
    show Steps p.tables e below (T127.setTop (mkF m 81 #[.val (.int pc)] [(.int (111 : Int32)), (.int (13 : Int32)), (.ref ar), (.ref ar)])) _
    refine st129 _ ?_
    show Steps p.tables e below (T129.setTop (mkF m 82 #[.val (.int pc)] [(.ref ar)])) _
    refine XS.dup X129.here hx rfl (hb hby dmgrPlus_82) rfl rfl ?_
    show Steps p.tables e below (T129.setTop (mkF m 83 #[.val (.int pc)] [(.ref ar), (.ref ar)])) _
    refine XS.bipush X129.here hx rfl (hb hby dmgrPlus_83) ?_
    show Steps p.tables e below (T129.setTop (mkF m 85 #[.val (.int pc)] [(.int (14 : Int32)), (.ref ar), (.ref ar)])) _
    refine XS.bipush X129.here hx rfl (hb hby dmgrPlus_85) ?_
    show Steps p.tables e below (T129.setTop (mkF m 87 #[.val (.int pc)] [(.int (114 : Int32)), (.int (14 : Int32)), (.ref ar), (.ref ar)])) _
    refine st131 _ ?_
    show Steps p.tables e below (T131.setTop (mkF m 88 #[.val (.int pc)] [(.ref ar)])) _
    refine XS.dup X131.here hx rfl (hb hby dmgrPlus_88) rfl rfl ?_
    show Steps p.tables e below (T131.setTop (mkF m 89 #[.val (.int pc)] [(.ref ar), (.ref ar)])) _
    refine XS.bipush X131.here hx rfl (hb hby dmgrPlus_89) ?_
    show Steps p.tables e below (T131.setTop (mkF m 91 #[.val (.int pc)] [(.int (15 : Int32)), (.ref ar), (.ref ar)])) _
    refine XS.bipush X131.here hx rfl (hb hby dmgrPlus_91) ?_
    show Steps p.tables e below (T131.setTop (mkF m 93 #[.val (.int pc)] [(.int (116 : Int32)), (.int (15 : Int32)), (.ref ar), (.ref ar)])) _
    refine st133 _ ?_
    show Steps p.tables e below (T133.setTop (mkF m 94 #[.val (.int pc)] [(.ref ar)])) _
    refine XS.dup X133.here hx rfl (hb hby dmgrPlus_94) rfl rfl ?_
    show Steps p.tables e below (T133.setTop (mkF m 95 #[.val (.int pc)] [(.ref ar), (.ref ar)])) _
    refine XS.bipush X133.here hx rfl (hb hby dmgrPlus_95) ?_
    show Steps p.tables e below (T133.setTop (mkF m 97 #[.val (.int pc)] [(.int (16 : Int32)), (.ref ar), (.ref ar)])) _
    refine XS.bipush X133.here hx rfl (hb hby dmgrPlus_97) ?_
    show Steps p.tables e below (T133.setTop (mkF m 99 #[.val (.int pc)] [(.int (97 : Int32)), (.int (16 : Int32)), (.ref ar), (.ref ar)])) _
    refine st135 _ ?_
    show Steps p.tables e below (T135.setTop (mkF m 100 #[.val (.int pc)] [(.ref ar)])) _
    refine XS.dup X135.here hx rfl (hb hby dmgrPlus_100) rfl rfl ?_
    show Steps p.tables e below (T135.setTop (mkF m 101 #[.val (.int pc)] [(.ref ar), (.ref ar)])) _
    refine XS.bipush X135.here hx rfl (hb hby dmgrPlus_101) ?_
    show Steps p.tables e below (T135.setTop (mkF m 103 #[.val (.int pc)] [(.int (17 : Int32)), (.ref ar), (.ref ar)])) _
    refine XS.bipush X135.here hx rfl (hb hby dmgrPlus_103) ?_
    show Steps p.tables e below (T135.setTop (mkF m 105 #[.val (.int pc)] [(.int (98 : Int32)), (.int (17 : Int32)), (.ref ar), (.ref ar)])) _
    refine st137 _ ?_
    show Steps p.tables e below (T137.setTop (mkF m 106 #[.val (.int pc)] [(.ref ar)])) _
    refine XS.dup X137.here hx rfl (hb hby dmgrPlus_106) rfl rfl ?_
    show Steps p.tables e below (T137.setTop (mkF m 107 #[.val (.int pc)] [(.ref ar), (.ref ar)])) _
    refine XS.bipush X137.here hx rfl (hb hby dmgrPlus_107) ?_
    show Steps p.tables e below (T137.setTop (mkF m 109 #[.val (.int pc)] [(.int (18 : Int32)), (.ref ar), (.ref ar)])) _
    refine XS.bipush X137.here hx rfl (hb hby dmgrPlus_109) ?_
    show Steps p.tables e below (T137.setTop (mkF m 111 #[.val (.int pc)] [(.int (108 : Int32)), (.int (18 : Int32)), (.ref ar), (.ref ar)])) _
    refine st139 _ ?_
    show Steps p.tables e below (T139.setTop (mkF m 112 #[.val (.int pc)] [(.ref ar)])) _
    refine XS.dup X139.here hx rfl (hb hby dmgrPlus_112) rfl rfl ?_
    show Steps p.tables e below (T139.setTop (mkF m 113 #[.val (.int pc)] [(.ref ar), (.ref ar)])) _
    refine XS.bipush X139.here hx rfl (hb hby dmgrPlus_113) ?_
    show Steps p.tables e below (T139.setTop (mkF m 115 #[.val (.int pc)] [(.int (19 : Int32)), (.ref ar), (.ref ar)])) _
    refine XS.bipush X139.here hx rfl (hb hby dmgrPlus_115) ?_
    show Steps p.tables e below (T139.setTop (mkF m 117 #[.val (.int pc)] [(.int (101 : Int32)), (.int (19 : Int32)), (.ref ar), (.ref ar)])) _
    refine st141 _ ?_
    show Steps p.tables e below (T141.setTop (mkF m 118 #[.val (.int pc)] [(.ref ar)])) _
    refine XS.dup X141.here hx rfl (hb hby dmgrPlus_118) rfl rfl ?_
    show Steps p.tables e below (T141.setTop (mkF m 119 #[.val (.int pc)] [(.ref ar), (.ref ar)])) _
    refine XS.bipush X141.here hx rfl (hb hby dmgrPlus_119) ?_
    show Steps p.tables e below (T141.setTop (mkF m 121 #[.val (.int pc)] [(.int (20 : Int32)), (.ref ar), (.ref ar)])) _
    refine XS.bipush X141.here hx rfl (hb hby dmgrPlus_121) ?_
    show Steps p.tables e below (T141.setTop (mkF m 123 #[.val (.int pc)] [(.int (83 : Int32)), (.int (20 : Int32)), (.ref ar), (.ref ar)])) _
    refine st143 _ ?_
    show Steps p.tables e below (T143.setTop (mkF m 124 #[.val (.int pc)] [(.ref ar)])) _
    refine XS.dup X143.here hx rfl (hb hby dmgrPlus_124) rfl rfl ?_
    show Steps p.tables e below (T143.setTop (mkF m 125 #[.val (.int pc)] [(.ref ar), (.ref ar)])) _
    refine XS.bipush X143.here hx rfl (hb hby dmgrPlus_125) ?_
    show Steps p.tables e below (T143.setTop (mkF m 127 #[.val (.int pc)] [(.int (21 : Int32)), (.ref ar), (.ref ar)])) _
    refine XS.bipush X143.here hx rfl (hb hby dmgrPlus_127) ?_
    show Steps p.tables e below (T143.setTop (mkF m 129 #[.val (.int pc)] [(.int (101 : Int32)), (.int (21 : Int32)), (.ref ar), (.ref ar)])) _
    refine st145 _ ?_
    show Steps p.tables e below (T145.setTop (mkF m 130 #[.val (.int pc)] [(.ref ar)])) _
    refine XS.dup X145.here hx rfl (hb hby dmgrPlus_130) rfl rfl ?_
    show Steps p.tables e below (T145.setTop (mkF m 131 #[.val (.int pc)] [(.ref ar), (.ref ar)])) _
    refine XS.bipush X145.here hx rfl (hb hby dmgrPlus_131) ?_
    show Steps p.tables e below (T145.setTop (mkF m 133 #[.val (.int pc)] [(.int (22 : Int32)), (.ref ar), (.ref ar)])) _
    refine XS.bipush X145.here hx rfl (hb hby dmgrPlus_133) ?_
    show Steps p.tables e below (T145.setTop (mkF m 135 #[.val (.int pc)] [(.int (114 : Int32)), (.int (22 : Int32)), (.ref ar), (.ref ar)])) _
    refine st147 _ ?_
    show Steps p.tables e below (T147.setTop (mkF m 136 #[.val (.int pc)] [(.ref ar)])) _
    refine XS.dup X147.here hx rfl (hb hby dmgrPlus_136) rfl rfl ?_
    show Steps p.tables e below (T147.setTop (mkF m 137 #[.val (.int pc)] [(.ref ar), (.ref ar)])) _
    refine XS.bipush X147.here hx rfl (hb hby dmgrPlus_137) ?_
    show Steps p.tables e below (T147.setTop (mkF m 139 #[.val (.int pc)] [(.int (23 : Int32)), (.ref ar), (.ref ar)])) _
    refine XS.bipush X147.here hx rfl (hb hby dmgrPlus_139) ?_
    show Steps p.tables e below (T147.setTop (mkF m 141 #[.val (.int pc)] [(.int (118 : Int32)), (.int (23 : Int32)), (.ref ar), (.ref ar)])) _
    refine st149 _ ?_
    show Steps p.tables e below (T149.setTop (mkF m 142 #[.val (.int pc)] [(.ref ar)])) _
    refine XS.dup X149.here hx rfl (hb hby dmgrPlus_142) rfl rfl ?_
    show Steps p.tables e below (T149.setTop (mkF m 143 #[.val (.int pc)] [(.ref ar), (.ref ar)])) _
    refine XS.bipush X149.here hx rfl (hb hby dmgrPlus_143) ?_
    show Steps p.tables e below (T149.setTop (mkF m 145 #[.val (.int pc)] [(.int (24 : Int32)), (.ref ar), (.ref ar)])) _
    refine XS.bipush X149.here hx rfl (hb hby dmgrPlus_145) ?_
    show Steps p.tables e below (T149.setTop (mkF m 147 #[.val (.int pc)] [(.int (101 : Int32)), (.int (24 : Int32)), (.ref ar), (.ref ar)])) _
    refine st151 _ ?_
    show Steps p.tables e below (T151.setTop (mkF m 148 #[.val (.int pc)] [(.ref ar)])) _
    refine XS.dup X151.here hx rfl (hb hby dmgrPlus_148) rfl rfl ?_
    show Steps p.tables e below (T151.setTop (mkF m 149 #[.val (.int pc)] [(.ref ar), (.ref ar)])) _
    refine XS.bipush X151.here hx rfl (hb hby dmgrPlus_149) ?_
    show Steps p.tables e below (T151.setTop (mkF m 151 #[.val (.int pc)] [(.int (25 : Int32)), (.ref ar), (.ref ar)])) _
    refine XS.bipush X151.here hx rfl (hb hby dmgrPlus_151) ?_
    show Steps p.tables e below (T151.setTop (mkF m 153 #[.val (.int pc)] [(.int (114 : Int32)), (.int (25 : Int32)), (.ref ar), (.ref ar)])) _
    refine st153 _ ?_
    show Steps p.tables e below (T153.setTop (mkF m 154 #[.val (.int pc)] [(.ref ar)])) _
    refine XS.dup X153.here hx rfl (hb hby dmgrPlus_154) rfl rfl ?_
    show Steps p.tables e below (T153.setTop (mkF m 155 #[.val (.int pc)] [(.ref ar), (.ref ar)])) _
    refine XS.bipush X153.here hx rfl (hb hby dmgrPlus_155) ?_
    show Steps p.tables e below (T153.setTop (mkF m 157 #[.val (.int pc)] [(.int (26 : Int32)), (.ref ar), (.ref ar)])) _
    refine XS.bipush X153.here hx rfl (hb hby dmgrPlus_157) ?_
    show Steps p.tables e below (T153.setTop (mkF m 159 #[.val (.int pc)] [(.int (47 : Int32)), (.int (26 : Int32)), (.ref ar), (.ref ar)])) _
    refine st155 _ ?_
    show Steps p.tables e below (T155.setTop (mkF m 160 #[.val (.int pc)] [(.ref ar)])) _
    refine XS.dup X155.here hx rfl (hb hby dmgrPlus_160) rfl rfl ?_
    show Steps p.tables e below (T155.setTop (mkF m 161 #[.val (.int pc)] [(.ref ar), (.ref ar)])) _
    refine XS.bipush X155.here hx rfl (hb hby dmgrPlus_161) ?_
    show Steps p.tables e below (T155.setTop (mkF m 163 #[.val (.int pc)] [(.int (27 : Int32)), (.ref ar), (.ref ar)])) _
    refine XS.bipush X155.here hx rfl (hb hby dmgrPlus_163) ?_
    show Steps p.tables e below (T155.setTop (mkF m 165 #[.val (.int pc)] [(.int (80 : Int32)), (.int (27 : Int32)), (.ref ar), (.ref ar)])) _
    refine st157 _ ?_
    show Steps p.tables e below (T157.setTop (mkF m 166 #[.val (.int pc)] [(.ref ar)])) _
    refine XS.dup X157.here hx rfl (hb hby dmgrPlus_166) rfl rfl ?_
    show Steps p.tables e below (T157.setTop (mkF m 167 #[.val (.int pc)] [(.ref ar), (.ref ar)])) _
    refine XS.bipush X157.here hx rfl (hb hby dmgrPlus_167) ?_
    show Steps p.tables e below (T157.setTop (mkF m 169 #[.val (.int pc)] [(.int (28 : Int32)), (.ref ar), (.ref ar)])) _
    refine XS.bipush X157.here hx rfl (hb hby dmgrPlus_169) ?_
    show Steps p.tables e below (T157.setTop (mkF m 171 #[.val (.int pc)] [(.int (79 : Int32)), (.int (28 : Int32)), (.ref ar), (.ref ar)])) _
    refine st159 _ ?_
    show Steps p.tables e below (T159.setTop (mkF m 172 #[.val (.int pc)] [(.ref ar)])) _
    refine XS.dup X159.here hx rfl (hb hby dmgrPlus_172) rfl rfl ?_
    show Steps p.tables e below (T159.setTop (mkF m 173 #[.val (.int pc)] [(.ref ar), (.ref ar)])) _
    refine XS.bipush X159.here hx rfl (hb hby dmgrPlus_173) ?_
    show Steps p.tables e below (T159.setTop (mkF m 175 #[.val (.int pc)] [(.int (29 : Int32)), (.ref ar), (.ref ar)])) _
    refine XS.bipush X159.here hx rfl (hb hby dmgrPlus_175) ?_
    show Steps p.tables e below (T159.setTop (mkF m 177 #[.val (.int pc)] [(.int (65 : Int32)), (.int (29 : Int32)), (.ref ar), (.ref ar)])) _
    refine st161 _ ?_
    show Steps p.tables e below (T161.setTop (mkF m 178 #[.val (.int pc)] [(.ref ar)])) _
    refine XS.dup X161.here hx rfl (hb hby dmgrPlus_178) rfl rfl ?_
    show Steps p.tables e below (T161.setTop (mkF m 179 #[.val (.int pc)] [(.ref ar), (.ref ar)])) _
    refine XS.bipush X161.here hx rfl (hb hby dmgrPlus_179) ?_
    show Steps p.tables e below (T161.setTop (mkF m 181 #[.val (.int pc)] [(.int (30 : Int32)), (.ref ar), (.ref ar)])) _
    refine XS.bipush X161.here hx rfl (hb hby dmgrPlus_181) ?_
    show Steps p.tables e below (T161.setTop (mkF m 183 #[.val (.int pc)] [(.int (77 : Int32)), (.int (30 : Int32)), (.ref ar), (.ref ar)])) _
    refine st163 _ ?_
    show Steps p.tables e below (T163.setTop (mkF m 184 #[.val (.int pc)] [(.ref ar)])) _
    refine XS.dup X163.here hx rfl (hb hby dmgrPlus_184) rfl rfl ?_
    show Steps p.tables e below (T163.setTop (mkF m 185 #[.val (.int pc)] [(.ref ar), (.ref ar)])) _
    refine XS.bipush X163.here hx rfl (hb hby dmgrPlus_185) ?_
    show Steps p.tables e below (T163.setTop (mkF m 187 #[.val (.int pc)] [(.int (31 : Int32)), (.ref ar), (.ref ar)])) _
    refine XS.bipush X163.here hx rfl (hb hby dmgrPlus_187) ?_
    show Steps p.tables e below (T163.setTop (mkF m 189 #[.val (.int pc)] [(.int (97 : Int32)), (.int (31 : Int32)), (.ref ar), (.ref ar)])) _
    refine st165 _ ?_
    show Steps p.tables e below (T165.setTop (mkF m 190 #[.val (.int pc)] [(.ref ar)])) _
    refine XS.dup X165.here hx rfl (hb hby dmgrPlus_190) rfl rfl ?_
    show Steps p.tables e below (T165.setTop (mkF m 191 #[.val (.int pc)] [(.ref ar), (.ref ar)])) _
    refine XS.bipush X165.here hx rfl (hb hby dmgrPlus_191) ?_
    show Steps p.tables e below (T165.setTop (mkF m 193 #[.val (.int pc)] [(.int (32 : Int32)), (.ref ar), (.ref ar)])) _
    refine XS.bipush X165.here hx rfl (hb hby dmgrPlus_193) ?_
    show Steps p.tables e below (T165.setTop (mkF m 195 #[.val (.int pc)] [(.int (110 : Int32)), (.int (32 : Int32)), (.ref ar), (.ref ar)])) _
    refine st167 _ ?_
    show Steps p.tables e below (T167.setTop (mkF m 196 #[.val (.int pc)] [(.ref ar)])) _
    refine XS.dup X167.here hx rfl (hb hby dmgrPlus_196) rfl rfl ?_
    show Steps p.tables e below (T167.setTop (mkF m 197 #[.val (.int pc)] [(.ref ar), (.ref ar)])) _
    refine XS.bipush X167.here hx rfl (hb hby dmgrPlus_197) ?_
    show Steps p.tables e below (T167.setTop (mkF m 199 #[.val (.int pc)] [(.int (33 : Int32)), (.ref ar), (.ref ar)])) _
    refine XS.bipush X167.here hx rfl (hb hby dmgrPlus_199) ?_
    show Steps p.tables e below (T167.setTop (mkF m 201 #[.val (.int pc)] [(.int (97 : Int32)), (.int (33 : Int32)), (.ref ar), (.ref ar)])) _
    refine st169 _ ?_
    show Steps p.tables e below (T169.setTop (mkF m 202 #[.val (.int pc)] [(.ref ar)])) _
    refine XS.dup X169.here hx rfl (hb hby dmgrPlus_202) rfl rfl ?_
    show Steps p.tables e below (T169.setTop (mkF m 203 #[.val (.int pc)] [(.ref ar), (.ref ar)])) _
    refine XS.bipush X169.here hx rfl (hb hby dmgrPlus_203) ?_
    show Steps p.tables e below (T169.setTop (mkF m 205 #[.val (.int pc)] [(.int (34 : Int32)), (.ref ar), (.ref ar)])) _
    refine XS.bipush X169.here hx rfl (hb hby dmgrPlus_205) ?_
    show Steps p.tables e below (T169.setTop (mkF m 207 #[.val (.int pc)] [(.int (103 : Int32)), (.int (34 : Int32)), (.ref ar), (.ref ar)])) _
    refine st171 _ ?_
    show Steps p.tables e below (T171.setTop (mkF m 208 #[.val (.int pc)] [(.ref ar)])) _
    refine XS.dup X171.here hx rfl (hb hby dmgrPlus_208) rfl rfl ?_
    show Steps p.tables e below (T171.setTop (mkF m 209 #[.val (.int pc)] [(.ref ar), (.ref ar)])) _
    refine XS.bipush X171.here hx rfl (hb hby dmgrPlus_209) ?_
    show Steps p.tables e below (T171.setTop (mkF m 211 #[.val (.int pc)] [(.int (35 : Int32)), (.ref ar), (.ref ar)])) _
    refine XS.bipush X171.here hx rfl (hb hby dmgrPlus_211) ?_
    show Steps p.tables e below (T171.setTop (mkF m 213 #[.val (.int pc)] [(.int (101 : Int32)), (.int (35 : Int32)), (.ref ar), (.ref ar)])) _
    refine st173 _ ?_
    show Steps p.tables e below (T173.setTop (mkF m 214 #[.val (.int pc)] [(.ref ar)])) _
    refine XS.dup X173.here hx rfl (hb hby dmgrPlus_214) rfl rfl ?_
    show Steps p.tables e below (T173.setTop (mkF m 215 #[.val (.int pc)] [(.ref ar), (.ref ar)])) _
    refine XS.bipush X173.here hx rfl (hb hby dmgrPlus_215) ?_
    show Steps p.tables e below (T173.setTop (mkF m 217 #[.val (.int pc)] [(.int (36 : Int32)), (.ref ar), (.ref ar)])) _
    refine XS.bipush X173.here hx rfl (hb hby dmgrPlus_217) ?_
    show Steps p.tables e below (T173.setTop (mkF m 219 #[.val (.int pc)] [(.int (114 : Int32)), (.int (36 : Int32)), (.ref ar), (.ref ar)])) _
    refine st175 _ ?_
    show Steps p.tables e below (T175.setTop (mkF m 220 #[.val (.int pc)] [(.ref ar)])) _
    refine XS.dup X175.here hx rfl (hb hby dmgrPlus_220) rfl rfl ?_
    show Steps p.tables e below (T175.setTop (mkF m 221 #[.val (.int pc)] [(.ref ar), (.ref ar)])) _
    refine XS.bipush X175.here hx rfl (hb hby dmgrPlus_221) ?_
    show Steps p.tables e below (T175.setTop (mkF m 223 #[.val (.int pc)] [(.int (37 : Int32)), (.ref ar), (.ref ar)])) _
    refine XS.bipush X175.here hx rfl (hb hby dmgrPlus_223) ?_
    show Steps p.tables e below (T175.setTop (mkF m 225 #[.val (.int pc)] [(.int (58 : Int32)), (.int (37 : Int32)), (.ref ar), (.ref ar)])) _
    refine st177 _ ?_
    show Steps p.tables e below (T177.setTop (mkF m 226 #[.val (.int pc)] [(.ref ar)])) _
    refine XS.dup X177.here hx rfl (hb hby dmgrPlus_226) rfl rfl ?_
    show Steps p.tables e below (T177.setTop (mkF m 227 #[.val (.int pc)] [(.ref ar), (.ref ar)])) _
    refine XS.bipush X177.here hx rfl (hb hby dmgrPlus_227) ?_
    show Steps p.tables e below (T177.setTop (mkF m 229 #[.val (.int pc)] [(.int (38 : Int32)), (.ref ar), (.ref ar)])) _
    refine XS.bipush X177.here hx rfl (hb hby dmgrPlus_229) ?_
    show Steps p.tables e below (T177.setTop (mkF m 231 #[.val (.int pc)] [(.int (50 : Int32)), (.int (38 : Int32)), (.ref ar), (.ref ar)])) _
    refine st179 _ ?_
    show Steps p.tables e below (T179.setTop (mkF m 232 #[.val (.int pc)] [(.ref ar)])) _
    refine XS.dup X179.here hx rfl (hb hby dmgrPlus_232) rfl rfl ?_
    show Steps p.tables e below (T179.setTop (mkF m 233 #[.val (.int pc)] [(.ref ar), (.ref ar)])) _
    refine XS.bipush X179.here hx rfl (hb hby dmgrPlus_233) ?_
    show Steps p.tables e below (T179.setTop (mkF m 235 #[.val (.int pc)] [(.int (39 : Int32)), (.ref ar), (.ref ar)])) _
    refine XS.bipush X179.here hx rfl (hb hby dmgrPlus_235) ?_
    show Steps p.tables e below (T179.setTop (mkF m 237 #[.val (.int pc)] [(.int (46 : Int32)), (.int (39 : Int32)), (.ref ar), (.ref ar)])) _
    refine st181 _ ?_
    show Steps p.tables e below (T181.setTop (mkF m 238 #[.val (.int pc)] [(.ref ar)])) _
    refine XS.dup X181.here hx rfl (hb hby dmgrPlus_238) rfl rfl ?_
    show Steps p.tables e below (T181.setTop (mkF m 239 #[.val (.int pc)] [(.ref ar), (.ref ar)])) _
    refine XS.bipush X181.here hx rfl (hb hby dmgrPlus_239) ?_
    show Steps p.tables e below (T181.setTop (mkF m 241 #[.val (.int pc)] [(.int (40 : Int32)), (.ref ar), (.ref ar)])) _
    refine XS.bipush X181.here hx rfl (hb hby dmgrPlus_241) ?_
    show Steps p.tables e below (T181.setTop (mkF m 243 #[.val (.int pc)] [(.int (51 : Int32)), (.int (40 : Int32)), (.ref ar), (.ref ar)])) _
    refine st183 _ ?_
    show Steps p.tables e below (T183.setTop (mkF m 244 #[.val (.int pc)] [(.ref ar)])) _
    refine XS.dup X183.here hx rfl (hb hby dmgrPlus_244) rfl rfl ?_
    show Steps p.tables e below (T183.setTop (mkF m 245 #[.val (.int pc)] [(.ref ar), (.ref ar)])) _
    refine XS.bipush X183.here hx rfl (hb hby dmgrPlus_245) ?_
    show Steps p.tables e below (T183.setTop (mkF m 247 #[.val (.int pc)] [(.int (41 : Int32)), (.ref ar), (.ref ar)])) _
    refine XS.iloadN X183.here hx rfl (hb hby dmgrPlus_247) rfl ?_
    show Steps p.tables e below (T183.setTop (mkF m 248 #[.val (.int pc)] [(.int pc), (.int (41 : Int32)), (.ref ar), (.ref ar)])) _
    refine st185 _ ?_
    show Steps p.tables e below (T185.setTop (mkF m 249 #[.val (.int pc)] [(.ref ar)])) _
    jvm_step X185.here [X185.here.top, hx, (hb hby dmgrPlus_249), X185.method', Bd.returns, Value.isRef, FieldType.isReference]
    first | (intro acts; rw [hr _ acts rfl rfl rfl]) | rw [hr _ _ rfl rfl rfl]
    exact Steps.refl _
  · show QA Z (42 : Int32) (own_L0 ++ [nar .char pc]) h0 n0 _ T185.heap _
    rw [e185]
    exact ⟨_, _, rfl, N185, KH186, g_ar, sz_ar, V_ar_185⟩
theorem dobjPlus_0 : decode method_5_code 0 = .ok (.bipush 29, 2) := by decide +kernel
theorem dobjPlus_2 : decode method_5_code 2 = .ok (.newarray .char, 2) := by decide +kernel
theorem dobjPlus_4 : decode method_5_code 4 = .ok (.dup, 1) := by decide +kernel
theorem dobjPlus_5 : decode method_5_code 5 = .ok (.iconst 0, 1) := by decide +kernel
theorem dobjPlus_6 : decode method_5_code 6 = .ok (.bipush 73, 2) := by decide +kernel
theorem dobjPlus_8 : decode method_5_code 8 = .ok (.castore, 1) := by decide +kernel
theorem dobjPlus_9 : decode method_5_code 9 = .ok (.dup, 1) := by decide +kernel
theorem dobjPlus_10 : decode method_5_code 10 = .ok (.iconst 1, 1) := by decide +kernel
theorem dobjPlus_11 : decode method_5_code 11 = .ok (.bipush 68, 2) := by decide +kernel
theorem dobjPlus_13 : decode method_5_code 13 = .ok (.castore, 1) := by decide +kernel
theorem dobjPlus_14 : decode method_5_code 14 = .ok (.dup, 1) := by decide +kernel
theorem dobjPlus_15 : decode method_5_code 15 = .ok (.iconst 2, 1) := by decide +kernel
theorem dobjPlus_16 : decode method_5_code 16 = .ok (.bipush 76, 2) := by decide +kernel
theorem dobjPlus_18 : decode method_5_code 18 = .ok (.castore, 1) := by decide +kernel
theorem dobjPlus_19 : decode method_5_code 19 = .ok (.dup, 1) := by decide +kernel
theorem dobjPlus_20 : decode method_5_code 20 = .ok (.iconst 3, 1) := by decide +kernel
theorem dobjPlus_21 : decode method_5_code 21 = .ok (.bipush 58, 2) := by decide +kernel
theorem dobjPlus_23 : decode method_5_code 23 = .ok (.castore, 1) := by decide +kernel
theorem dobjPlus_24 : decode method_5_code 24 = .ok (.dup, 1) := by decide +kernel
theorem dobjPlus_25 : decode method_5_code 25 = .ok (.iconst 4, 1) := by decide +kernel
theorem dobjPlus_26 : decode method_5_code 26 = .ok (.bipush 111, 2) := by decide +kernel
theorem dobjPlus_28 : decode method_5_code 28 = .ok (.castore, 1) := by decide +kernel
theorem dobjPlus_29 : decode method_5_code 29 = .ok (.dup, 1) := by decide +kernel
theorem dobjPlus_30 : decode method_5_code 30 = .ok (.iconst 5, 1) := by decide +kernel
theorem dobjPlus_31 : decode method_5_code 31 = .ok (.bipush 109, 2) := by decide +kernel
theorem dobjPlus_33 : decode method_5_code 33 = .ok (.castore, 1) := by decide +kernel
theorem dobjPlus_34 : decode method_5_code 34 = .ok (.dup, 1) := by decide +kernel
theorem dobjPlus_35 : decode method_5_code 35 = .ok (.bipush 6, 2) := by decide +kernel
theorem dobjPlus_37 : decode method_5_code 37 = .ok (.bipush 103, 2) := by decide +kernel
theorem dobjPlus_39 : decode method_5_code 39 = .ok (.castore, 1) := by decide +kernel
theorem dobjPlus_40 : decode method_5_code 40 = .ok (.dup, 1) := by decide +kernel
theorem dobjPlus_41 : decode method_5_code 41 = .ok (.bipush 7, 2) := by decide +kernel
theorem dobjPlus_43 : decode method_5_code 43 = .ok (.bipush 46, 2) := by decide +kernel
theorem dobjPlus_45 : decode method_5_code 45 = .ok (.castore, 1) := by decide +kernel
theorem dobjPlus_46 : decode method_5_code 46 = .ok (.dup, 1) := by decide +kernel
theorem dobjPlus_47 : decode method_5_code 47 = .ok (.bipush 8, 2) := by decide +kernel
theorem dobjPlus_49 : decode method_5_code 49 = .ok (.bipush 111, 2) := by decide +kernel
theorem dobjPlus_51 : decode method_5_code 51 = .ok (.castore, 1) := by decide +kernel
theorem dobjPlus_52 : decode method_5_code 52 = .ok (.dup, 1) := by decide +kernel
theorem dobjPlus_53 : decode method_5_code 53 = .ok (.bipush 9, 2) := by decide +kernel
theorem dobjPlus_55 : decode method_5_code 55 = .ok (.bipush 114, 2) := by decide +kernel
theorem dobjPlus_57 : decode method_5_code 57 = .ok (.castore, 1) := by decide +kernel
theorem dobjPlus_58 : decode method_5_code 58 = .ok (.dup, 1) := by decide +kernel
theorem dobjPlus_59 : decode method_5_code 59 = .ok (.bipush 10, 2) := by decide +kernel
theorem dobjPlus_61 : decode method_5_code 61 = .ok (.bipush 103, 2) := by decide +kernel
theorem dobjPlus_63 : decode method_5_code 63 = .ok (.castore, 1) := by decide +kernel
theorem dobjPlus_64 : decode method_5_code 64 = .ok (.dup, 1) := by decide +kernel
theorem dobjPlus_65 : decode method_5_code 65 = .ok (.bipush 11, 2) := by decide +kernel
theorem dobjPlus_67 : decode method_5_code 67 = .ok (.bipush 47, 2) := by decide +kernel
theorem dobjPlus_69 : decode method_5_code 69 = .ok (.castore, 1) := by decide +kernel
theorem dobjPlus_70 : decode method_5_code 70 = .ok (.dup, 1) := by decide +kernel
theorem dobjPlus_71 : decode method_5_code 71 = .ok (.bipush 12, 2) := by decide +kernel
theorem dobjPlus_73 : decode method_5_code 73 = .ok (.bipush 67, 2) := by decide +kernel
theorem dobjPlus_75 : decode method_5_code 75 = .ok (.castore, 1) := by decide +kernel
theorem dobjPlus_76 : decode method_5_code 76 = .ok (.dup, 1) := by decide +kernel
theorem dobjPlus_77 : decode method_5_code 77 = .ok (.bipush 13, 2) := by decide +kernel
theorem dobjPlus_79 : decode method_5_code 79 = .ok (.bipush 79, 2) := by decide +kernel
theorem dobjPlus_81 : decode method_5_code 81 = .ok (.castore, 1) := by decide +kernel
theorem dobjPlus_82 : decode method_5_code 82 = .ok (.dup, 1) := by decide +kernel
theorem dobjPlus_83 : decode method_5_code 83 = .ok (.bipush 14, 2) := by decide +kernel
theorem dobjPlus_85 : decode method_5_code 85 = .ok (.bipush 82, 2) := by decide +kernel
theorem dobjPlus_87 : decode method_5_code 87 = .ok (.castore, 1) := by decide +kernel
theorem dobjPlus_88 : decode method_5_code 88 = .ok (.dup, 1) := by decide +kernel
theorem dobjPlus_89 : decode method_5_code 89 = .ok (.bipush 15, 2) := by decide +kernel
theorem dobjPlus_91 : decode method_5_code 91 = .ok (.bipush 66, 2) := by decide +kernel
theorem dobjPlus_93 : decode method_5_code 93 = .ok (.castore, 1) := by decide +kernel
theorem dobjPlus_94 : decode method_5_code 94 = .ok (.dup, 1) := by decide +kernel
theorem dobjPlus_95 : decode method_5_code 95 = .ok (.bipush 16, 2) := by decide +kernel
theorem dobjPlus_97 : decode method_5_code 97 = .ok (.bipush 65, 2) := by decide +kernel
theorem dobjPlus_99 : decode method_5_code 99 = .ok (.castore, 1) := by decide +kernel
theorem dobjPlus_100 : decode method_5_code 100 = .ok (.dup, 1) := by decide +kernel
theorem dobjPlus_101 : decode method_5_code 101 = .ok (.bipush 17, 2) := by decide +kernel
theorem dobjPlus_103 : decode method_5_code 103 = .ok (.bipush 47, 2) := by decide +kernel
theorem dobjPlus_105 : decode method_5_code 105 = .ok (.castore, 1) := by decide +kernel
theorem dobjPlus_106 : decode method_5_code 106 = .ok (.dup, 1) := by decide +kernel
theorem dobjPlus_107 : decode method_5_code 107 = .ok (.bipush 18, 2) := by decide +kernel
theorem dobjPlus_109 : decode method_5_code 109 = .ok (.bipush 79, 2) := by decide +kernel
theorem dobjPlus_111 : decode method_5_code 111 = .ok (.castore, 1) := by decide +kernel
theorem dobjPlus_112 : decode method_5_code 112 = .ok (.dup, 1) := by decide +kernel
theorem dobjPlus_113 : decode method_5_code 113 = .ok (.bipush 19, 2) := by decide +kernel
theorem dobjPlus_115 : decode method_5_code 115 = .ok (.bipush 98, 2) := by decide +kernel
theorem dobjPlus_117 : decode method_5_code 117 = .ok (.castore, 1) := by decide +kernel
theorem dobjPlus_118 : decode method_5_code 118 = .ok (.dup, 1) := by decide +kernel
theorem dobjPlus_119 : decode method_5_code 119 = .ok (.bipush 20, 2) := by decide +kernel
theorem dobjPlus_121 : decode method_5_code 121 = .ok (.bipush 106, 2) := by decide +kernel
theorem dobjPlus_123 : decode method_5_code 123 = .ok (.castore, 1) := by decide +kernel
theorem dobjPlus_124 : decode method_5_code 124 = .ok (.dup, 1) := by decide +kernel
theorem dobjPlus_125 : decode method_5_code 125 = .ok (.bipush 21, 2) := by decide +kernel
theorem dobjPlus_127 : decode method_5_code 127 = .ok (.bipush 101, 2) := by decide +kernel
theorem dobjPlus_129 : decode method_5_code 129 = .ok (.castore, 1) := by decide +kernel
theorem dobjPlus_130 : decode method_5_code 130 = .ok (.dup, 1) := by decide +kernel
theorem dobjPlus_131 : decode method_5_code 131 = .ok (.bipush 22, 2) := by decide +kernel
theorem dobjPlus_133 : decode method_5_code 133 = .ok (.bipush 99, 2) := by decide +kernel
theorem dobjPlus_135 : decode method_5_code 135 = .ok (.castore, 1) := by decide +kernel
theorem dobjPlus_136 : decode method_5_code 136 = .ok (.dup, 1) := by decide +kernel
theorem dobjPlus_137 : decode method_5_code 137 = .ok (.bipush 23, 2) := by decide +kernel
theorem dobjPlus_139 : decode method_5_code 139 = .ok (.bipush 116, 2) := by decide +kernel
theorem dobjPlus_141 : decode method_5_code 141 = .ok (.castore, 1) := by decide +kernel
theorem dobjPlus_142 : decode method_5_code 142 = .ok (.dup, 1) := by decide +kernel
theorem dobjPlus_143 : decode method_5_code 143 = .ok (.bipush 24, 2) := by decide +kernel
theorem dobjPlus_145 : decode method_5_code 145 = .ok (.bipush 58, 2) := by decide +kernel
theorem dobjPlus_147 : decode method_5_code 147 = .ok (.castore, 1) := by decide +kernel
theorem dobjPlus_148 : decode method_5_code 148 = .ok (.dup, 1) := by decide +kernel
theorem dobjPlus_149 : decode method_5_code 149 = .ok (.bipush 25, 2) := by decide +kernel
theorem dobjPlus_151 : decode method_5_code 151 = .ok (.bipush 49, 2) := by decide +kernel
theorem dobjPlus_153 : decode method_5_code 153 = .ok (.castore, 1) := by decide +kernel
theorem dobjPlus_154 : decode method_5_code 154 = .ok (.dup, 1) := by decide +kernel
theorem dobjPlus_155 : decode method_5_code 155 = .ok (.bipush 26, 2) := by decide +kernel
theorem dobjPlus_157 : decode method_5_code 157 = .ok (.bipush 46, 2) := by decide +kernel
theorem dobjPlus_159 : decode method_5_code 159 = .ok (.castore, 1) := by decide +kernel
theorem dobjPlus_160 : decode method_5_code 160 = .ok (.dup, 1) := by decide +kernel
theorem dobjPlus_161 : decode method_5_code 161 = .ok (.bipush 27, 2) := by decide +kernel
theorem dobjPlus_163 : decode method_5_code 163 = .ok (.bipush 48, 2) := by decide +kernel
theorem dobjPlus_165 : decode method_5_code 165 = .ok (.castore, 1) := by decide +kernel
theorem dobjPlus_166 : decode method_5_code 166 = .ok (.dup, 1) := by decide +kernel
theorem dobjPlus_167 : decode method_5_code 167 = .ok (.bipush 28, 2) := by decide +kernel
theorem dobjPlus_169 : decode method_5_code 169 = .ok (.iload_n 0, 1) := by decide +kernel
theorem dobjPlus_170 : decode method_5_code 170 = .ok (.castore, 1) := by decide +kernel
theorem dobjPlus_171 : decode method_5_code 171 = .ok (.areturn, 1) := by decide +kernel
theorem ef_objPlus (m : MethodId) (x0 : Int32) : entryFrame m #[(.int x0)] 1 = mkF m 0 #[.val (.int x0)] [] := by first | (simp [entryFrame, mkF, argsToLocals, Value.category]; done) | rfl
set_option maxRecDepth 65536 in
set_option maxHeartbeats 40000000 in
theorem rm_objPlus (l : Launch) (Z : State) (a0 : Array Value) (hw : ∀ d ∈ tables_1, d.before a0 Z = true) (ws : List Jvm.Cond) (pc : Int32) (h0 : Heap) (n0 : Nat) (Z0 : n0 ≤ h0.size) :
    MetFree l (⟨"com/example/tramway/tramway/poa/TramwayPoaManagerIs_aPinLaw", "objPlus", "(C)[C"⟩ : MethodName) (head1 (Jvm.Cond.code (⟨"com/example/tramway/tramway/poa/TramwayPoaManagerIs_aPinLaw", "objPlus", "(C)[C"⟩ : MethodName) method_5_code 1 (some (.array .char)) :: ws) ({ frames := 0, cells := 1, slots := 29, locals := 0 } : Room)) (fun a U => a = #[(.int pc)] ∧ Z.Warmed39 U.vm ∧ U.heap = h0) (fun _ _ _ _ _ => True) (fun _ U o U' => ∃ v L, o = .returned v ∧ QA Z (29 : Int32) (own_L1 ++ [nar .char pc]) h0 n0 v U'.heap L ∧ FrameEnd U o U' L ({ frames := 0, cells := 1, slots := 29, locals := 0 } : Room).cells ({ frames := 0, cells := 1, slots := 29, locals := 0 } : Room).slots) := by
  refine MetFree.of_bodySF (plainFor_of_name pnL) hisR ?_
  intro p e s m args below meth c s₁ Bd hml0 hP hK
  obtain ⟨rfl, hZ, hh⟩ := hP
  have hx := Bd.exec
  have hby := Bd.bytes
  have hml : c.maxLocals = 1 := hml0
  have hown : s.vm.findClass "com/example/tramway/tramway/poa/TramwayPoaManagerIs_aPinLaw" = some m.cls := findClass_of_methodNamed Bd.named
  have hnm := (name_of_methodNamed Bd.named Bd.method).1
  have X0 : Stand p l e ({ frames := 0, cells := 1, slots := 29, locals := 0 } : Room) s m #[(.int pc)] below meth c s₁ [] 0 0 := Stand.of_body Bd
  have e0 : s₁.heap = h0 := by rw [← hh, Bd.state]; rfl
  have N0 := Fr.nil n0
  have go0 : ∀ tg_, Steps p.tables e below (s₁.setTop (mkF m 0 #[.val (.int pc)] [])) tg_ → Steps p.tables e below (s₁.setTop (entryFrame m #[(.int pc)] 1)) tg_ := fun tg_ k => castTop (ef_objPlus m pc) k
  have KH0 : Keep h0 h0 [] := Keep.refl h0 []
  obtain ⟨T101, h101, k101, X101, e101, E101, A101, st101⟩ := newP X0 hx hZ (hw _ (List.mem_of_getElem? (i := 19) rfl)) e0 (g := (mkF m 2 #[.val (.int pc)] [(.int (29 : Int32))])) rfl (hb hby dobjPlus_2) rfl (by decide) (cap := 29) (by decide) (by decide) (by decide) (by decide)
  obtain ⟨ar, g101⟩ : ∃ z, z = h0.size := ⟨_, rfl⟩
  rw [← g101] at A101 st101
  have sz_ar : h0.size ≤ ar := Nat.le_trans KH0.1 (Nat.le_of_eq g101.symm)
  have g_ar : n0 ≤ ar := Nat.le_trans Z0 (Nat.le_of_eq g101.symm)
  have V_ar : Arv Z h101 ar k101 .char (29 : Int32) [(.int (0 : Int32)), (.int (0 : Int32)), (.int (0 : Int32)), (.int (0 : Int32)), (.int (0 : Int32)), (.int (0 : Int32)), (.int (0 : Int32)), (.int (0 : Int32)), (.int (0 : Int32)), (.int (0 : Int32)), (.int (0 : Int32)), (.int (0 : Int32)), (.int (0 : Int32)), (.int (0 : Int32)), (.int (0 : Int32)), (.int (0 : Int32)), (.int (0 : Int32)), (.int (0 : Int32)), (.int (0 : Int32)), (.int (0 : Int32)), (.int (0 : Int32)), (.int (0 : Int32)), (.int (0 : Int32)), (.int (0 : Int32)), (.int (0 : Int32)), (.int (0 : Int32)), (.int (0 : Int32)), (.int (0 : Int32)), (.int (0 : Int32))] (.int (0 : Int32)) := (Arv.new A101 (by decide)).pad (pad_rep [] (.int (0 : Int32)) 29)
  have K101 : Keep h0 h101 [] := (Keep.refl _ []).ext E101
  have KH102 : Keep h0 h101 [] := KH0.trans K101 all0
  have lt_ar : ar < h101.size := V_ar.lt
  obtain ⟨cl103, Ar103, q103, S103, M103, Hh103, G103⟩ := id V_ar
  obtain ⟨T103, h103, X103, e103, W103, st103⟩ := stC X101 hx hZ e101 Ar103 (j := (0 : Int32)) (inb_of S103 ⟨by decide, by decide⟩) (g := (mkF m 8 #[.val (.int pc)] [(.int (73 : Int32)), (.int (0 : Int32)), (.ref ar), (.ref ar)])) rfl rfl (hb hby dobjPlus_8)
  have V_ar_103 : Arv Z h103 ar k101 .char (29 : Int32) [(.int (73 : Int32)), (.int (0 : Int32)), (.int (0 : Int32)), (.int (0 : Int32)), (.int (0 : Int32)), (.int (0 : Int32)), (.int (0 : Int32)), (.int (0 : Int32)), (.int (0 : Int32)), (.int (0 : Int32)), (.int (0 : Int32)), (.int (0 : Int32)), (.int (0 : Int32)), (.int (0 : Int32)), (.int (0 : Int32)), (.int (0 : Int32)), (.int (0 : Int32)), (.int (0 : Int32)), (.int (0 : Int32)), (.int (0 : Int32)), (.int (0 : Int32)), (.int (0 : Int32)), (.int (0 : Int32)), (.int (0 : Int32)), (.int (0 : Int32)), (.int (0 : Int32)), (.int (0 : Int32)), (.int (0 : Int32)), (.int (0 : Int32))] (.int (0 : Int32)) := Arv.set Ar103 q103 S103 M103 Hh103 G103 (fits_nar_char _) W103 0 rfl (Nat.le_of_ble_eq_true rfl)
  have K103 : Keep h101 h103 [ar] := Keep.of_wr W103
  have KH104 : Keep h0 h103 [] := KH102.trans K103 (allS (Or.inr sz_ar) all0)
  have N103 := Fr.snoc X103 N0 g_ar
  obtain ⟨cl105, Ar105, q105, S105, M105, Hh105, G105⟩ := id V_ar_103
  obtain ⟨T105, h105, X105, e105, W105, st105⟩ := stC X103 hx hZ e103 Ar105 (j := (1 : Int32)) (inb_of S105 ⟨by decide, by decide⟩) (g := (mkF m 13 #[.val (.int pc)] [(.int (68 : Int32)), (.int (1 : Int32)), (.ref ar), (.ref ar)])) rfl rfl (hb hby dobjPlus_13)
  have V_ar_105 : Arv Z h105 ar k101 .char (29 : Int32) [(.int (73 : Int32)), (.int (68 : Int32)), (.int (0 : Int32)), (.int (0 : Int32)), (.int (0 : Int32)), (.int (0 : Int32)), (.int (0 : Int32)), (.int (0 : Int32)), (.int (0 : Int32)), (.int (0 : Int32)), (.int (0 : Int32)), (.int (0 : Int32)), (.int (0 : Int32)), (.int (0 : Int32)), (.int (0 : Int32)), (.int (0 : Int32)), (.int (0 : Int32)), (.int (0 : Int32)), (.int (0 : Int32)), (.int (0 : Int32)), (.int (0 : Int32)), (.int (0 : Int32)), (.int (0 : Int32)), (.int (0 : Int32)), (.int (0 : Int32)), (.int (0 : Int32)), (.int (0 : Int32)), (.int (0 : Int32)), (.int (0 : Int32))] (.int (0 : Int32)) := Arv.set Ar105 q105 S105 M105 Hh105 G105 (fits_nar_char _) W105 1 rfl (Nat.le_of_ble_eq_true rfl)
  have K105 : Keep h103 h105 [ar] := Keep.of_wr W105
  have KH106 : Keep h0 h105 [] := KH104.trans K105 (allS (Or.inr sz_ar) all0)
  have N105 := Fr.snoc X105 N103 g_ar
  obtain ⟨cl107, Ar107, q107, S107, M107, Hh107, G107⟩ := id V_ar_105
  obtain ⟨T107, h107, X107, e107, W107, st107⟩ := stC X105 hx hZ e105 Ar107 (j := (2 : Int32)) (inb_of S107 ⟨by decide, by decide⟩) (g := (mkF m 18 #[.val (.int pc)] [(.int (76 : Int32)), (.int (2 : Int32)), (.ref ar), (.ref ar)])) rfl rfl (hb hby dobjPlus_18)
  have V_ar_107 : Arv Z h107 ar k101 .char (29 : Int32) [(.int (73 : Int32)), (.int (68 : Int32)), (.int (76 : Int32)), (.int (0 : Int32)), (.int (0 : Int32)), (.int (0 : Int32)), (.int (0 : Int32)), (.int (0 : Int32)), (.int (0 : Int32)), (.int (0 : Int32)), (.int (0 : Int32)), (.int (0 : Int32)), (.int (0 : Int32)), (.int (0 : Int32)), (.int (0 : Int32)), (.int (0 : Int32)), (.int (0 : Int32)), (.int (0 : Int32)), (.int (0 : Int32)), (.int (0 : Int32)), (.int (0 : Int32)), (.int (0 : Int32)), (.int (0 : Int32)), (.int (0 : Int32)), (.int (0 : Int32)), (.int (0 : Int32)), (.int (0 : Int32)), (.int (0 : Int32)), (.int (0 : Int32))] (.int (0 : Int32)) := Arv.set Ar107 q107 S107 M107 Hh107 G107 (fits_nar_char _) W107 2 rfl (Nat.le_of_ble_eq_true rfl)
  have K107 : Keep h105 h107 [ar] := Keep.of_wr W107
  have KH108 : Keep h0 h107 [] := KH106.trans K107 (allS (Or.inr sz_ar) all0)
  have N107 := Fr.snoc X107 N105 g_ar
  obtain ⟨cl109, Ar109, q109, S109, M109, Hh109, G109⟩ := id V_ar_107
  obtain ⟨T109, h109, X109, e109, W109, st109⟩ := stC X107 hx hZ e107 Ar109 (j := (3 : Int32)) (inb_of S109 ⟨by decide, by decide⟩) (g := (mkF m 23 #[.val (.int pc)] [(.int (58 : Int32)), (.int (3 : Int32)), (.ref ar), (.ref ar)])) rfl rfl (hb hby dobjPlus_23)
  have V_ar_109 : Arv Z h109 ar k101 .char (29 : Int32) [(.int (73 : Int32)), (.int (68 : Int32)), (.int (76 : Int32)), (.int (58 : Int32)), (.int (0 : Int32)), (.int (0 : Int32)), (.int (0 : Int32)), (.int (0 : Int32)), (.int (0 : Int32)), (.int (0 : Int32)), (.int (0 : Int32)), (.int (0 : Int32)), (.int (0 : Int32)), (.int (0 : Int32)), (.int (0 : Int32)), (.int (0 : Int32)), (.int (0 : Int32)), (.int (0 : Int32)), (.int (0 : Int32)), (.int (0 : Int32)), (.int (0 : Int32)), (.int (0 : Int32)), (.int (0 : Int32)), (.int (0 : Int32)), (.int (0 : Int32)), (.int (0 : Int32)), (.int (0 : Int32)), (.int (0 : Int32)), (.int (0 : Int32))] (.int (0 : Int32)) := Arv.set Ar109 q109 S109 M109 Hh109 G109 (fits_nar_char _) W109 3 rfl (Nat.le_of_ble_eq_true rfl)
  have K109 : Keep h107 h109 [ar] := Keep.of_wr W109
  have KH110 : Keep h0 h109 [] := KH108.trans K109 (allS (Or.inr sz_ar) all0)
  have N109 := Fr.snoc X109 N107 g_ar
  obtain ⟨cl111, Ar111, q111, S111, M111, Hh111, G111⟩ := id V_ar_109
  obtain ⟨T111, h111, X111, e111, W111, st111⟩ := stC X109 hx hZ e109 Ar111 (j := (4 : Int32)) (inb_of S111 ⟨by decide, by decide⟩) (g := (mkF m 28 #[.val (.int pc)] [(.int (111 : Int32)), (.int (4 : Int32)), (.ref ar), (.ref ar)])) rfl rfl (hb hby dobjPlus_28)
  have V_ar_111 : Arv Z h111 ar k101 .char (29 : Int32) [(.int (73 : Int32)), (.int (68 : Int32)), (.int (76 : Int32)), (.int (58 : Int32)), (.int (111 : Int32)), (.int (0 : Int32)), (.int (0 : Int32)), (.int (0 : Int32)), (.int (0 : Int32)), (.int (0 : Int32)), (.int (0 : Int32)), (.int (0 : Int32)), (.int (0 : Int32)), (.int (0 : Int32)), (.int (0 : Int32)), (.int (0 : Int32)), (.int (0 : Int32)), (.int (0 : Int32)), (.int (0 : Int32)), (.int (0 : Int32)), (.int (0 : Int32)), (.int (0 : Int32)), (.int (0 : Int32)), (.int (0 : Int32)), (.int (0 : Int32)), (.int (0 : Int32)), (.int (0 : Int32)), (.int (0 : Int32)), (.int (0 : Int32))] (.int (0 : Int32)) := Arv.set Ar111 q111 S111 M111 Hh111 G111 (fits_nar_char _) W111 4 rfl (Nat.le_of_ble_eq_true rfl)
  have K111 : Keep h109 h111 [ar] := Keep.of_wr W111
  have KH112 : Keep h0 h111 [] := KH110.trans K111 (allS (Or.inr sz_ar) all0)
  have N111 := Fr.snoc X111 N109 g_ar
  obtain ⟨cl113, Ar113, q113, S113, M113, Hh113, G113⟩ := id V_ar_111
  obtain ⟨T113, h113, X113, e113, W113, st113⟩ := stC X111 hx hZ e111 Ar113 (j := (5 : Int32)) (inb_of S113 ⟨by decide, by decide⟩) (g := (mkF m 33 #[.val (.int pc)] [(.int (109 : Int32)), (.int (5 : Int32)), (.ref ar), (.ref ar)])) rfl rfl (hb hby dobjPlus_33)
  have V_ar_113 : Arv Z h113 ar k101 .char (29 : Int32) [(.int (73 : Int32)), (.int (68 : Int32)), (.int (76 : Int32)), (.int (58 : Int32)), (.int (111 : Int32)), (.int (109 : Int32)), (.int (0 : Int32)), (.int (0 : Int32)), (.int (0 : Int32)), (.int (0 : Int32)), (.int (0 : Int32)), (.int (0 : Int32)), (.int (0 : Int32)), (.int (0 : Int32)), (.int (0 : Int32)), (.int (0 : Int32)), (.int (0 : Int32)), (.int (0 : Int32)), (.int (0 : Int32)), (.int (0 : Int32)), (.int (0 : Int32)), (.int (0 : Int32)), (.int (0 : Int32)), (.int (0 : Int32)), (.int (0 : Int32)), (.int (0 : Int32)), (.int (0 : Int32)), (.int (0 : Int32)), (.int (0 : Int32))] (.int (0 : Int32)) := Arv.set Ar113 q113 S113 M113 Hh113 G113 (fits_nar_char _) W113 5 rfl (Nat.le_of_ble_eq_true rfl)
  have K113 : Keep h111 h113 [ar] := Keep.of_wr W113
  have KH114 : Keep h0 h113 [] := KH112.trans K113 (allS (Or.inr sz_ar) all0)
  have N113 := Fr.snoc X113 N111 g_ar
  obtain ⟨cl115, Ar115, q115, S115, M115, Hh115, G115⟩ := id V_ar_113
  obtain ⟨T115, h115, X115, e115, W115, st115⟩ := stC X113 hx hZ e113 Ar115 (j := (6 : Int32)) (inb_of S115 ⟨by decide, by decide⟩) (g := (mkF m 39 #[.val (.int pc)] [(.int (103 : Int32)), (.int (6 : Int32)), (.ref ar), (.ref ar)])) rfl rfl (hb hby dobjPlus_39)
  have V_ar_115 : Arv Z h115 ar k101 .char (29 : Int32) [(.int (73 : Int32)), (.int (68 : Int32)), (.int (76 : Int32)), (.int (58 : Int32)), (.int (111 : Int32)), (.int (109 : Int32)), (.int (103 : Int32)), (.int (0 : Int32)), (.int (0 : Int32)), (.int (0 : Int32)), (.int (0 : Int32)), (.int (0 : Int32)), (.int (0 : Int32)), (.int (0 : Int32)), (.int (0 : Int32)), (.int (0 : Int32)), (.int (0 : Int32)), (.int (0 : Int32)), (.int (0 : Int32)), (.int (0 : Int32)), (.int (0 : Int32)), (.int (0 : Int32)), (.int (0 : Int32)), (.int (0 : Int32)), (.int (0 : Int32)), (.int (0 : Int32)), (.int (0 : Int32)), (.int (0 : Int32)), (.int (0 : Int32))] (.int (0 : Int32)) := Arv.set Ar115 q115 S115 M115 Hh115 G115 (fits_nar_char _) W115 6 rfl (Nat.le_of_ble_eq_true rfl)
  have K115 : Keep h113 h115 [ar] := Keep.of_wr W115
  have KH116 : Keep h0 h115 [] := KH114.trans K115 (allS (Or.inr sz_ar) all0)
  have N115 := Fr.snoc X115 N113 g_ar
  obtain ⟨cl117, Ar117, q117, S117, M117, Hh117, G117⟩ := id V_ar_115
  obtain ⟨T117, h117, X117, e117, W117, st117⟩ := stC X115 hx hZ e115 Ar117 (j := (7 : Int32)) (inb_of S117 ⟨by decide, by decide⟩) (g := (mkF m 45 #[.val (.int pc)] [(.int (46 : Int32)), (.int (7 : Int32)), (.ref ar), (.ref ar)])) rfl rfl (hb hby dobjPlus_45)
  have V_ar_117 : Arv Z h117 ar k101 .char (29 : Int32) [(.int (73 : Int32)), (.int (68 : Int32)), (.int (76 : Int32)), (.int (58 : Int32)), (.int (111 : Int32)), (.int (109 : Int32)), (.int (103 : Int32)), (.int (46 : Int32)), (.int (0 : Int32)), (.int (0 : Int32)), (.int (0 : Int32)), (.int (0 : Int32)), (.int (0 : Int32)), (.int (0 : Int32)), (.int (0 : Int32)), (.int (0 : Int32)), (.int (0 : Int32)), (.int (0 : Int32)), (.int (0 : Int32)), (.int (0 : Int32)), (.int (0 : Int32)), (.int (0 : Int32)), (.int (0 : Int32)), (.int (0 : Int32)), (.int (0 : Int32)), (.int (0 : Int32)), (.int (0 : Int32)), (.int (0 : Int32)), (.int (0 : Int32))] (.int (0 : Int32)) := Arv.set Ar117 q117 S117 M117 Hh117 G117 (fits_nar_char _) W117 7 rfl (Nat.le_of_ble_eq_true rfl)
  have K117 : Keep h115 h117 [ar] := Keep.of_wr W117
  have KH118 : Keep h0 h117 [] := KH116.trans K117 (allS (Or.inr sz_ar) all0)
  have N117 := Fr.snoc X117 N115 g_ar
  obtain ⟨cl119, Ar119, q119, S119, M119, Hh119, G119⟩ := id V_ar_117
  obtain ⟨T119, h119, X119, e119, W119, st119⟩ := stC X117 hx hZ e117 Ar119 (j := (8 : Int32)) (inb_of S119 ⟨by decide, by decide⟩) (g := (mkF m 51 #[.val (.int pc)] [(.int (111 : Int32)), (.int (8 : Int32)), (.ref ar), (.ref ar)])) rfl rfl (hb hby dobjPlus_51)
  have V_ar_119 : Arv Z h119 ar k101 .char (29 : Int32) [(.int (73 : Int32)), (.int (68 : Int32)), (.int (76 : Int32)), (.int (58 : Int32)), (.int (111 : Int32)), (.int (109 : Int32)), (.int (103 : Int32)), (.int (46 : Int32)), (.int (111 : Int32)), (.int (0 : Int32)), (.int (0 : Int32)), (.int (0 : Int32)), (.int (0 : Int32)), (.int (0 : Int32)), (.int (0 : Int32)), (.int (0 : Int32)), (.int (0 : Int32)), (.int (0 : Int32)), (.int (0 : Int32)), (.int (0 : Int32)), (.int (0 : Int32)), (.int (0 : Int32)), (.int (0 : Int32)), (.int (0 : Int32)), (.int (0 : Int32)), (.int (0 : Int32)), (.int (0 : Int32)), (.int (0 : Int32)), (.int (0 : Int32))] (.int (0 : Int32)) := Arv.set Ar119 q119 S119 M119 Hh119 G119 (fits_nar_char _) W119 8 rfl (Nat.le_of_ble_eq_true rfl)
  have K119 : Keep h117 h119 [ar] := Keep.of_wr W119
  have KH120 : Keep h0 h119 [] := KH118.trans K119 (allS (Or.inr sz_ar) all0)
  have N119 := Fr.snoc X119 N117 g_ar
  obtain ⟨cl121, Ar121, q121, S121, M121, Hh121, G121⟩ := id V_ar_119
  obtain ⟨T121, h121, X121, e121, W121, st121⟩ := stC X119 hx hZ e119 Ar121 (j := (9 : Int32)) (inb_of S121 ⟨by decide, by decide⟩) (g := (mkF m 57 #[.val (.int pc)] [(.int (114 : Int32)), (.int (9 : Int32)), (.ref ar), (.ref ar)])) rfl rfl (hb hby dobjPlus_57)
  have V_ar_121 : Arv Z h121 ar k101 .char (29 : Int32) [(.int (73 : Int32)), (.int (68 : Int32)), (.int (76 : Int32)), (.int (58 : Int32)), (.int (111 : Int32)), (.int (109 : Int32)), (.int (103 : Int32)), (.int (46 : Int32)), (.int (111 : Int32)), (.int (114 : Int32)), (.int (0 : Int32)), (.int (0 : Int32)), (.int (0 : Int32)), (.int (0 : Int32)), (.int (0 : Int32)), (.int (0 : Int32)), (.int (0 : Int32)), (.int (0 : Int32)), (.int (0 : Int32)), (.int (0 : Int32)), (.int (0 : Int32)), (.int (0 : Int32)), (.int (0 : Int32)), (.int (0 : Int32)), (.int (0 : Int32)), (.int (0 : Int32)), (.int (0 : Int32)), (.int (0 : Int32)), (.int (0 : Int32))] (.int (0 : Int32)) := Arv.set Ar121 q121 S121 M121 Hh121 G121 (fits_nar_char _) W121 9 rfl (Nat.le_of_ble_eq_true rfl)
  have K121 : Keep h119 h121 [ar] := Keep.of_wr W121
  have KH122 : Keep h0 h121 [] := KH120.trans K121 (allS (Or.inr sz_ar) all0)
  have N121 := Fr.snoc X121 N119 g_ar
  obtain ⟨cl123, Ar123, q123, S123, M123, Hh123, G123⟩ := id V_ar_121
  obtain ⟨T123, h123, X123, e123, W123, st123⟩ := stC X121 hx hZ e121 Ar123 (j := (10 : Int32)) (inb_of S123 ⟨by decide, by decide⟩) (g := (mkF m 63 #[.val (.int pc)] [(.int (103 : Int32)), (.int (10 : Int32)), (.ref ar), (.ref ar)])) rfl rfl (hb hby dobjPlus_63)
  have V_ar_123 : Arv Z h123 ar k101 .char (29 : Int32) [(.int (73 : Int32)), (.int (68 : Int32)), (.int (76 : Int32)), (.int (58 : Int32)), (.int (111 : Int32)), (.int (109 : Int32)), (.int (103 : Int32)), (.int (46 : Int32)), (.int (111 : Int32)), (.int (114 : Int32)), (.int (103 : Int32)), (.int (0 : Int32)), (.int (0 : Int32)), (.int (0 : Int32)), (.int (0 : Int32)), (.int (0 : Int32)), (.int (0 : Int32)), (.int (0 : Int32)), (.int (0 : Int32)), (.int (0 : Int32)), (.int (0 : Int32)), (.int (0 : Int32)), (.int (0 : Int32)), (.int (0 : Int32)), (.int (0 : Int32)), (.int (0 : Int32)), (.int (0 : Int32)), (.int (0 : Int32)), (.int (0 : Int32))] (.int (0 : Int32)) := Arv.set Ar123 q123 S123 M123 Hh123 G123 (fits_nar_char _) W123 10 rfl (Nat.le_of_ble_eq_true rfl)
  have K123 : Keep h121 h123 [ar] := Keep.of_wr W123
  have KH124 : Keep h0 h123 [] := KH122.trans K123 (allS (Or.inr sz_ar) all0)
  have N123 := Fr.snoc X123 N121 g_ar
  obtain ⟨cl125, Ar125, q125, S125, M125, Hh125, G125⟩ := id V_ar_123
  obtain ⟨T125, h125, X125, e125, W125, st125⟩ := stC X123 hx hZ e123 Ar125 (j := (11 : Int32)) (inb_of S125 ⟨by decide, by decide⟩) (g := (mkF m 69 #[.val (.int pc)] [(.int (47 : Int32)), (.int (11 : Int32)), (.ref ar), (.ref ar)])) rfl rfl (hb hby dobjPlus_69)
  have V_ar_125 : Arv Z h125 ar k101 .char (29 : Int32) [(.int (73 : Int32)), (.int (68 : Int32)), (.int (76 : Int32)), (.int (58 : Int32)), (.int (111 : Int32)), (.int (109 : Int32)), (.int (103 : Int32)), (.int (46 : Int32)), (.int (111 : Int32)), (.int (114 : Int32)), (.int (103 : Int32)), (.int (47 : Int32)), (.int (0 : Int32)), (.int (0 : Int32)), (.int (0 : Int32)), (.int (0 : Int32)), (.int (0 : Int32)), (.int (0 : Int32)), (.int (0 : Int32)), (.int (0 : Int32)), (.int (0 : Int32)), (.int (0 : Int32)), (.int (0 : Int32)), (.int (0 : Int32)), (.int (0 : Int32)), (.int (0 : Int32)), (.int (0 : Int32)), (.int (0 : Int32)), (.int (0 : Int32))] (.int (0 : Int32)) := Arv.set Ar125 q125 S125 M125 Hh125 G125 (fits_nar_char _) W125 11 rfl (Nat.le_of_ble_eq_true rfl)
  have K125 : Keep h123 h125 [ar] := Keep.of_wr W125
  have KH126 : Keep h0 h125 [] := KH124.trans K125 (allS (Or.inr sz_ar) all0)
  have N125 := Fr.snoc X125 N123 g_ar
  obtain ⟨cl127, Ar127, q127, S127, M127, Hh127, G127⟩ := id V_ar_125
  obtain ⟨T127, h127, X127, e127, W127, st127⟩ := stC X125 hx hZ e125 Ar127 (j := (12 : Int32)) (inb_of S127 ⟨by decide, by decide⟩) (g := (mkF m 75 #[.val (.int pc)] [(.int (67 : Int32)), (.int (12 : Int32)), (.ref ar), (.ref ar)])) rfl rfl (hb hby dobjPlus_75)
  have V_ar_127 : Arv Z h127 ar k101 .char (29 : Int32) [(.int (73 : Int32)), (.int (68 : Int32)), (.int (76 : Int32)), (.int (58 : Int32)), (.int (111 : Int32)), (.int (109 : Int32)), (.int (103 : Int32)), (.int (46 : Int32)), (.int (111 : Int32)), (.int (114 : Int32)), (.int (103 : Int32)), (.int (47 : Int32)), (.int (67 : Int32)), (.int (0 : Int32)), (.int (0 : Int32)), (.int (0 : Int32)), (.int (0 : Int32)), (.int (0 : Int32)), (.int (0 : Int32)), (.int (0 : Int32)), (.int (0 : Int32)), (.int (0 : Int32)), (.int (0 : Int32)), (.int (0 : Int32)), (.int (0 : Int32)), (.int (0 : Int32)), (.int (0 : Int32)), (.int (0 : Int32)), (.int (0 : Int32))] (.int (0 : Int32)) := Arv.set Ar127 q127 S127 M127 Hh127 G127 (fits_nar_char _) W127 12 rfl (Nat.le_of_ble_eq_true rfl)
  have K127 : Keep h125 h127 [ar] := Keep.of_wr W127
  have KH128 : Keep h0 h127 [] := KH126.trans K127 (allS (Or.inr sz_ar) all0)
  have N127 := Fr.snoc X127 N125 g_ar
  obtain ⟨cl129, Ar129, q129, S129, M129, Hh129, G129⟩ := id V_ar_127
  obtain ⟨T129, h129, X129, e129, W129, st129⟩ := stC X127 hx hZ e127 Ar129 (j := (13 : Int32)) (inb_of S129 ⟨by decide, by decide⟩) (g := (mkF m 81 #[.val (.int pc)] [(.int (79 : Int32)), (.int (13 : Int32)), (.ref ar), (.ref ar)])) rfl rfl (hb hby dobjPlus_81)
  have V_ar_129 : Arv Z h129 ar k101 .char (29 : Int32) [(.int (73 : Int32)), (.int (68 : Int32)), (.int (76 : Int32)), (.int (58 : Int32)), (.int (111 : Int32)), (.int (109 : Int32)), (.int (103 : Int32)), (.int (46 : Int32)), (.int (111 : Int32)), (.int (114 : Int32)), (.int (103 : Int32)), (.int (47 : Int32)), (.int (67 : Int32)), (.int (79 : Int32)), (.int (0 : Int32)), (.int (0 : Int32)), (.int (0 : Int32)), (.int (0 : Int32)), (.int (0 : Int32)), (.int (0 : Int32)), (.int (0 : Int32)), (.int (0 : Int32)), (.int (0 : Int32)), (.int (0 : Int32)), (.int (0 : Int32)), (.int (0 : Int32)), (.int (0 : Int32)), (.int (0 : Int32)), (.int (0 : Int32))] (.int (0 : Int32)) := Arv.set Ar129 q129 S129 M129 Hh129 G129 (fits_nar_char _) W129 13 rfl (Nat.le_of_ble_eq_true rfl)
  have K129 : Keep h127 h129 [ar] := Keep.of_wr W129
  have KH130 : Keep h0 h129 [] := KH128.trans K129 (allS (Or.inr sz_ar) all0)
  have N129 := Fr.snoc X129 N127 g_ar
  obtain ⟨cl131, Ar131, q131, S131, M131, Hh131, G131⟩ := id V_ar_129
  obtain ⟨T131, h131, X131, e131, W131, st131⟩ := stC X129 hx hZ e129 Ar131 (j := (14 : Int32)) (inb_of S131 ⟨by decide, by decide⟩) (g := (mkF m 87 #[.val (.int pc)] [(.int (82 : Int32)), (.int (14 : Int32)), (.ref ar), (.ref ar)])) rfl rfl (hb hby dobjPlus_87)
  have V_ar_131 : Arv Z h131 ar k101 .char (29 : Int32) [(.int (73 : Int32)), (.int (68 : Int32)), (.int (76 : Int32)), (.int (58 : Int32)), (.int (111 : Int32)), (.int (109 : Int32)), (.int (103 : Int32)), (.int (46 : Int32)), (.int (111 : Int32)), (.int (114 : Int32)), (.int (103 : Int32)), (.int (47 : Int32)), (.int (67 : Int32)), (.int (79 : Int32)), (.int (82 : Int32)), (.int (0 : Int32)), (.int (0 : Int32)), (.int (0 : Int32)), (.int (0 : Int32)), (.int (0 : Int32)), (.int (0 : Int32)), (.int (0 : Int32)), (.int (0 : Int32)), (.int (0 : Int32)), (.int (0 : Int32)), (.int (0 : Int32)), (.int (0 : Int32)), (.int (0 : Int32)), (.int (0 : Int32))] (.int (0 : Int32)) := Arv.set Ar131 q131 S131 M131 Hh131 G131 (fits_nar_char _) W131 14 rfl (Nat.le_of_ble_eq_true rfl)
  have K131 : Keep h129 h131 [ar] := Keep.of_wr W131
  have KH132 : Keep h0 h131 [] := KH130.trans K131 (allS (Or.inr sz_ar) all0)
  have N131 := Fr.snoc X131 N129 g_ar
  obtain ⟨cl133, Ar133, q133, S133, M133, Hh133, G133⟩ := id V_ar_131
  obtain ⟨T133, h133, X133, e133, W133, st133⟩ := stC X131 hx hZ e131 Ar133 (j := (15 : Int32)) (inb_of S133 ⟨by decide, by decide⟩) (g := (mkF m 93 #[.val (.int pc)] [(.int (66 : Int32)), (.int (15 : Int32)), (.ref ar), (.ref ar)])) rfl rfl (hb hby dobjPlus_93)
  have V_ar_133 : Arv Z h133 ar k101 .char (29 : Int32) [(.int (73 : Int32)), (.int (68 : Int32)), (.int (76 : Int32)), (.int (58 : Int32)), (.int (111 : Int32)), (.int (109 : Int32)), (.int (103 : Int32)), (.int (46 : Int32)), (.int (111 : Int32)), (.int (114 : Int32)), (.int (103 : Int32)), (.int (47 : Int32)), (.int (67 : Int32)), (.int (79 : Int32)), (.int (82 : Int32)), (.int (66 : Int32)), (.int (0 : Int32)), (.int (0 : Int32)), (.int (0 : Int32)), (.int (0 : Int32)), (.int (0 : Int32)), (.int (0 : Int32)), (.int (0 : Int32)), (.int (0 : Int32)), (.int (0 : Int32)), (.int (0 : Int32)), (.int (0 : Int32)), (.int (0 : Int32)), (.int (0 : Int32))] (.int (0 : Int32)) := Arv.set Ar133 q133 S133 M133 Hh133 G133 (fits_nar_char _) W133 15 rfl (Nat.le_of_ble_eq_true rfl)
  have K133 : Keep h131 h133 [ar] := Keep.of_wr W133
  have KH134 : Keep h0 h133 [] := KH132.trans K133 (allS (Or.inr sz_ar) all0)
  have N133 := Fr.snoc X133 N131 g_ar
  obtain ⟨cl135, Ar135, q135, S135, M135, Hh135, G135⟩ := id V_ar_133
  obtain ⟨T135, h135, X135, e135, W135, st135⟩ := stC X133 hx hZ e133 Ar135 (j := (16 : Int32)) (inb_of S135 ⟨by decide, by decide⟩) (g := (mkF m 99 #[.val (.int pc)] [(.int (65 : Int32)), (.int (16 : Int32)), (.ref ar), (.ref ar)])) rfl rfl (hb hby dobjPlus_99)
  have V_ar_135 : Arv Z h135 ar k101 .char (29 : Int32) [(.int (73 : Int32)), (.int (68 : Int32)), (.int (76 : Int32)), (.int (58 : Int32)), (.int (111 : Int32)), (.int (109 : Int32)), (.int (103 : Int32)), (.int (46 : Int32)), (.int (111 : Int32)), (.int (114 : Int32)), (.int (103 : Int32)), (.int (47 : Int32)), (.int (67 : Int32)), (.int (79 : Int32)), (.int (82 : Int32)), (.int (66 : Int32)), (.int (65 : Int32)), (.int (0 : Int32)), (.int (0 : Int32)), (.int (0 : Int32)), (.int (0 : Int32)), (.int (0 : Int32)), (.int (0 : Int32)), (.int (0 : Int32)), (.int (0 : Int32)), (.int (0 : Int32)), (.int (0 : Int32)), (.int (0 : Int32)), (.int (0 : Int32))] (.int (0 : Int32)) := Arv.set Ar135 q135 S135 M135 Hh135 G135 (fits_nar_char _) W135 16 rfl (Nat.le_of_ble_eq_true rfl)
  have K135 : Keep h133 h135 [ar] := Keep.of_wr W135
  have KH136 : Keep h0 h135 [] := KH134.trans K135 (allS (Or.inr sz_ar) all0)
  have N135 := Fr.snoc X135 N133 g_ar
  obtain ⟨cl137, Ar137, q137, S137, M137, Hh137, G137⟩ := id V_ar_135
  obtain ⟨T137, h137, X137, e137, W137, st137⟩ := stC X135 hx hZ e135 Ar137 (j := (17 : Int32)) (inb_of S137 ⟨by decide, by decide⟩) (g := (mkF m 105 #[.val (.int pc)] [(.int (47 : Int32)), (.int (17 : Int32)), (.ref ar), (.ref ar)])) rfl rfl (hb hby dobjPlus_105)
  have V_ar_137 : Arv Z h137 ar k101 .char (29 : Int32) [(.int (73 : Int32)), (.int (68 : Int32)), (.int (76 : Int32)), (.int (58 : Int32)), (.int (111 : Int32)), (.int (109 : Int32)), (.int (103 : Int32)), (.int (46 : Int32)), (.int (111 : Int32)), (.int (114 : Int32)), (.int (103 : Int32)), (.int (47 : Int32)), (.int (67 : Int32)), (.int (79 : Int32)), (.int (82 : Int32)), (.int (66 : Int32)), (.int (65 : Int32)), (.int (47 : Int32)), (.int (0 : Int32)), (.int (0 : Int32)), (.int (0 : Int32)), (.int (0 : Int32)), (.int (0 : Int32)), (.int (0 : Int32)), (.int (0 : Int32)), (.int (0 : Int32)), (.int (0 : Int32)), (.int (0 : Int32)), (.int (0 : Int32))] (.int (0 : Int32)) := Arv.set Ar137 q137 S137 M137 Hh137 G137 (fits_nar_char _) W137 17 rfl (Nat.le_of_ble_eq_true rfl)
  have K137 : Keep h135 h137 [ar] := Keep.of_wr W137
  have KH138 : Keep h0 h137 [] := KH136.trans K137 (allS (Or.inr sz_ar) all0)
  have N137 := Fr.snoc X137 N135 g_ar
  obtain ⟨cl139, Ar139, q139, S139, M139, Hh139, G139⟩ := id V_ar_137
  obtain ⟨T139, h139, X139, e139, W139, st139⟩ := stC X137 hx hZ e137 Ar139 (j := (18 : Int32)) (inb_of S139 ⟨by decide, by decide⟩) (g := (mkF m 111 #[.val (.int pc)] [(.int (79 : Int32)), (.int (18 : Int32)), (.ref ar), (.ref ar)])) rfl rfl (hb hby dobjPlus_111)
  have V_ar_139 : Arv Z h139 ar k101 .char (29 : Int32) [(.int (73 : Int32)), (.int (68 : Int32)), (.int (76 : Int32)), (.int (58 : Int32)), (.int (111 : Int32)), (.int (109 : Int32)), (.int (103 : Int32)), (.int (46 : Int32)), (.int (111 : Int32)), (.int (114 : Int32)), (.int (103 : Int32)), (.int (47 : Int32)), (.int (67 : Int32)), (.int (79 : Int32)), (.int (82 : Int32)), (.int (66 : Int32)), (.int (65 : Int32)), (.int (47 : Int32)), (.int (79 : Int32)), (.int (0 : Int32)), (.int (0 : Int32)), (.int (0 : Int32)), (.int (0 : Int32)), (.int (0 : Int32)), (.int (0 : Int32)), (.int (0 : Int32)), (.int (0 : Int32)), (.int (0 : Int32)), (.int (0 : Int32))] (.int (0 : Int32)) := Arv.set Ar139 q139 S139 M139 Hh139 G139 (fits_nar_char _) W139 18 rfl (Nat.le_of_ble_eq_true rfl)
  have K139 : Keep h137 h139 [ar] := Keep.of_wr W139
  have KH140 : Keep h0 h139 [] := KH138.trans K139 (allS (Or.inr sz_ar) all0)
  have N139 := Fr.snoc X139 N137 g_ar
  obtain ⟨cl141, Ar141, q141, S141, M141, Hh141, G141⟩ := id V_ar_139
  obtain ⟨T141, h141, X141, e141, W141, st141⟩ := stC X139 hx hZ e139 Ar141 (j := (19 : Int32)) (inb_of S141 ⟨by decide, by decide⟩) (g := (mkF m 117 #[.val (.int pc)] [(.int (98 : Int32)), (.int (19 : Int32)), (.ref ar), (.ref ar)])) rfl rfl (hb hby dobjPlus_117)
  have V_ar_141 : Arv Z h141 ar k101 .char (29 : Int32) [(.int (73 : Int32)), (.int (68 : Int32)), (.int (76 : Int32)), (.int (58 : Int32)), (.int (111 : Int32)), (.int (109 : Int32)), (.int (103 : Int32)), (.int (46 : Int32)), (.int (111 : Int32)), (.int (114 : Int32)), (.int (103 : Int32)), (.int (47 : Int32)), (.int (67 : Int32)), (.int (79 : Int32)), (.int (82 : Int32)), (.int (66 : Int32)), (.int (65 : Int32)), (.int (47 : Int32)), (.int (79 : Int32)), (.int (98 : Int32)), (.int (0 : Int32)), (.int (0 : Int32)), (.int (0 : Int32)), (.int (0 : Int32)), (.int (0 : Int32)), (.int (0 : Int32)), (.int (0 : Int32)), (.int (0 : Int32)), (.int (0 : Int32))] (.int (0 : Int32)) := Arv.set Ar141 q141 S141 M141 Hh141 G141 (fits_nar_char _) W141 19 rfl (Nat.le_of_ble_eq_true rfl)
  have K141 : Keep h139 h141 [ar] := Keep.of_wr W141
  have KH142 : Keep h0 h141 [] := KH140.trans K141 (allS (Or.inr sz_ar) all0)
  have N141 := Fr.snoc X141 N139 g_ar
  obtain ⟨cl143, Ar143, q143, S143, M143, Hh143, G143⟩ := id V_ar_141
  obtain ⟨T143, h143, X143, e143, W143, st143⟩ := stC X141 hx hZ e141 Ar143 (j := (20 : Int32)) (inb_of S143 ⟨by decide, by decide⟩) (g := (mkF m 123 #[.val (.int pc)] [(.int (106 : Int32)), (.int (20 : Int32)), (.ref ar), (.ref ar)])) rfl rfl (hb hby dobjPlus_123)
  have V_ar_143 : Arv Z h143 ar k101 .char (29 : Int32) [(.int (73 : Int32)), (.int (68 : Int32)), (.int (76 : Int32)), (.int (58 : Int32)), (.int (111 : Int32)), (.int (109 : Int32)), (.int (103 : Int32)), (.int (46 : Int32)), (.int (111 : Int32)), (.int (114 : Int32)), (.int (103 : Int32)), (.int (47 : Int32)), (.int (67 : Int32)), (.int (79 : Int32)), (.int (82 : Int32)), (.int (66 : Int32)), (.int (65 : Int32)), (.int (47 : Int32)), (.int (79 : Int32)), (.int (98 : Int32)), (.int (106 : Int32)), (.int (0 : Int32)), (.int (0 : Int32)), (.int (0 : Int32)), (.int (0 : Int32)), (.int (0 : Int32)), (.int (0 : Int32)), (.int (0 : Int32)), (.int (0 : Int32))] (.int (0 : Int32)) := Arv.set Ar143 q143 S143 M143 Hh143 G143 (fits_nar_char _) W143 20 rfl (Nat.le_of_ble_eq_true rfl)
  have K143 : Keep h141 h143 [ar] := Keep.of_wr W143
  have KH144 : Keep h0 h143 [] := KH142.trans K143 (allS (Or.inr sz_ar) all0)
  have N143 := Fr.snoc X143 N141 g_ar
  obtain ⟨cl145, Ar145, q145, S145, M145, Hh145, G145⟩ := id V_ar_143
  obtain ⟨T145, h145, X145, e145, W145, st145⟩ := stC X143 hx hZ e143 Ar145 (j := (21 : Int32)) (inb_of S145 ⟨by decide, by decide⟩) (g := (mkF m 129 #[.val (.int pc)] [(.int (101 : Int32)), (.int (21 : Int32)), (.ref ar), (.ref ar)])) rfl rfl (hb hby dobjPlus_129)
  have V_ar_145 : Arv Z h145 ar k101 .char (29 : Int32) [(.int (73 : Int32)), (.int (68 : Int32)), (.int (76 : Int32)), (.int (58 : Int32)), (.int (111 : Int32)), (.int (109 : Int32)), (.int (103 : Int32)), (.int (46 : Int32)), (.int (111 : Int32)), (.int (114 : Int32)), (.int (103 : Int32)), (.int (47 : Int32)), (.int (67 : Int32)), (.int (79 : Int32)), (.int (82 : Int32)), (.int (66 : Int32)), (.int (65 : Int32)), (.int (47 : Int32)), (.int (79 : Int32)), (.int (98 : Int32)), (.int (106 : Int32)), (.int (101 : Int32)), (.int (0 : Int32)), (.int (0 : Int32)), (.int (0 : Int32)), (.int (0 : Int32)), (.int (0 : Int32)), (.int (0 : Int32)), (.int (0 : Int32))] (.int (0 : Int32)) := Arv.set Ar145 q145 S145 M145 Hh145 G145 (fits_nar_char _) W145 21 rfl (Nat.le_of_ble_eq_true rfl)
  have K145 : Keep h143 h145 [ar] := Keep.of_wr W145
  have KH146 : Keep h0 h145 [] := KH144.trans K145 (allS (Or.inr sz_ar) all0)
  have N145 := Fr.snoc X145 N143 g_ar
  obtain ⟨cl147, Ar147, q147, S147, M147, Hh147, G147⟩ := id V_ar_145
  obtain ⟨T147, h147, X147, e147, W147, st147⟩ := stC X145 hx hZ e145 Ar147 (j := (22 : Int32)) (inb_of S147 ⟨by decide, by decide⟩) (g := (mkF m 135 #[.val (.int pc)] [(.int (99 : Int32)), (.int (22 : Int32)), (.ref ar), (.ref ar)])) rfl rfl (hb hby dobjPlus_135)
  have V_ar_147 : Arv Z h147 ar k101 .char (29 : Int32) [(.int (73 : Int32)), (.int (68 : Int32)), (.int (76 : Int32)), (.int (58 : Int32)), (.int (111 : Int32)), (.int (109 : Int32)), (.int (103 : Int32)), (.int (46 : Int32)), (.int (111 : Int32)), (.int (114 : Int32)), (.int (103 : Int32)), (.int (47 : Int32)), (.int (67 : Int32)), (.int (79 : Int32)), (.int (82 : Int32)), (.int (66 : Int32)), (.int (65 : Int32)), (.int (47 : Int32)), (.int (79 : Int32)), (.int (98 : Int32)), (.int (106 : Int32)), (.int (101 : Int32)), (.int (99 : Int32)), (.int (0 : Int32)), (.int (0 : Int32)), (.int (0 : Int32)), (.int (0 : Int32)), (.int (0 : Int32)), (.int (0 : Int32))] (.int (0 : Int32)) := Arv.set Ar147 q147 S147 M147 Hh147 G147 (fits_nar_char _) W147 22 rfl (Nat.le_of_ble_eq_true rfl)
  have K147 : Keep h145 h147 [ar] := Keep.of_wr W147
  have KH148 : Keep h0 h147 [] := KH146.trans K147 (allS (Or.inr sz_ar) all0)
  have N147 := Fr.snoc X147 N145 g_ar
  obtain ⟨cl149, Ar149, q149, S149, M149, Hh149, G149⟩ := id V_ar_147
  obtain ⟨T149, h149, X149, e149, W149, st149⟩ := stC X147 hx hZ e147 Ar149 (j := (23 : Int32)) (inb_of S149 ⟨by decide, by decide⟩) (g := (mkF m 141 #[.val (.int pc)] [(.int (116 : Int32)), (.int (23 : Int32)), (.ref ar), (.ref ar)])) rfl rfl (hb hby dobjPlus_141)
  have V_ar_149 : Arv Z h149 ar k101 .char (29 : Int32) [(.int (73 : Int32)), (.int (68 : Int32)), (.int (76 : Int32)), (.int (58 : Int32)), (.int (111 : Int32)), (.int (109 : Int32)), (.int (103 : Int32)), (.int (46 : Int32)), (.int (111 : Int32)), (.int (114 : Int32)), (.int (103 : Int32)), (.int (47 : Int32)), (.int (67 : Int32)), (.int (79 : Int32)), (.int (82 : Int32)), (.int (66 : Int32)), (.int (65 : Int32)), (.int (47 : Int32)), (.int (79 : Int32)), (.int (98 : Int32)), (.int (106 : Int32)), (.int (101 : Int32)), (.int (99 : Int32)), (.int (116 : Int32)), (.int (0 : Int32)), (.int (0 : Int32)), (.int (0 : Int32)), (.int (0 : Int32)), (.int (0 : Int32))] (.int (0 : Int32)) := Arv.set Ar149 q149 S149 M149 Hh149 G149 (fits_nar_char _) W149 23 rfl (Nat.le_of_ble_eq_true rfl)
  have K149 : Keep h147 h149 [ar] := Keep.of_wr W149
  have KH150 : Keep h0 h149 [] := KH148.trans K149 (allS (Or.inr sz_ar) all0)
  have N149 := Fr.snoc X149 N147 g_ar
  obtain ⟨cl151, Ar151, q151, S151, M151, Hh151, G151⟩ := id V_ar_149
  obtain ⟨T151, h151, X151, e151, W151, st151⟩ := stC X149 hx hZ e149 Ar151 (j := (24 : Int32)) (inb_of S151 ⟨by decide, by decide⟩) (g := (mkF m 147 #[.val (.int pc)] [(.int (58 : Int32)), (.int (24 : Int32)), (.ref ar), (.ref ar)])) rfl rfl (hb hby dobjPlus_147)
  have V_ar_151 : Arv Z h151 ar k101 .char (29 : Int32) [(.int (73 : Int32)), (.int (68 : Int32)), (.int (76 : Int32)), (.int (58 : Int32)), (.int (111 : Int32)), (.int (109 : Int32)), (.int (103 : Int32)), (.int (46 : Int32)), (.int (111 : Int32)), (.int (114 : Int32)), (.int (103 : Int32)), (.int (47 : Int32)), (.int (67 : Int32)), (.int (79 : Int32)), (.int (82 : Int32)), (.int (66 : Int32)), (.int (65 : Int32)), (.int (47 : Int32)), (.int (79 : Int32)), (.int (98 : Int32)), (.int (106 : Int32)), (.int (101 : Int32)), (.int (99 : Int32)), (.int (116 : Int32)), (.int (58 : Int32)), (.int (0 : Int32)), (.int (0 : Int32)), (.int (0 : Int32)), (.int (0 : Int32))] (.int (0 : Int32)) := Arv.set Ar151 q151 S151 M151 Hh151 G151 (fits_nar_char _) W151 24 rfl (Nat.le_of_ble_eq_true rfl)
  have K151 : Keep h149 h151 [ar] := Keep.of_wr W151
  have KH152 : Keep h0 h151 [] := KH150.trans K151 (allS (Or.inr sz_ar) all0)
  have N151 := Fr.snoc X151 N149 g_ar
  obtain ⟨cl153, Ar153, q153, S153, M153, Hh153, G153⟩ := id V_ar_151
  obtain ⟨T153, h153, X153, e153, W153, st153⟩ := stC X151 hx hZ e151 Ar153 (j := (25 : Int32)) (inb_of S153 ⟨by decide, by decide⟩) (g := (mkF m 153 #[.val (.int pc)] [(.int (49 : Int32)), (.int (25 : Int32)), (.ref ar), (.ref ar)])) rfl rfl (hb hby dobjPlus_153)
  have V_ar_153 : Arv Z h153 ar k101 .char (29 : Int32) [(.int (73 : Int32)), (.int (68 : Int32)), (.int (76 : Int32)), (.int (58 : Int32)), (.int (111 : Int32)), (.int (109 : Int32)), (.int (103 : Int32)), (.int (46 : Int32)), (.int (111 : Int32)), (.int (114 : Int32)), (.int (103 : Int32)), (.int (47 : Int32)), (.int (67 : Int32)), (.int (79 : Int32)), (.int (82 : Int32)), (.int (66 : Int32)), (.int (65 : Int32)), (.int (47 : Int32)), (.int (79 : Int32)), (.int (98 : Int32)), (.int (106 : Int32)), (.int (101 : Int32)), (.int (99 : Int32)), (.int (116 : Int32)), (.int (58 : Int32)), (.int (49 : Int32)), (.int (0 : Int32)), (.int (0 : Int32)), (.int (0 : Int32))] (.int (0 : Int32)) := Arv.set Ar153 q153 S153 M153 Hh153 G153 (fits_nar_char _) W153 25 rfl (Nat.le_of_ble_eq_true rfl)
  have K153 : Keep h151 h153 [ar] := Keep.of_wr W153
  have KH154 : Keep h0 h153 [] := KH152.trans K153 (allS (Or.inr sz_ar) all0)
  have N153 := Fr.snoc X153 N151 g_ar
  obtain ⟨cl155, Ar155, q155, S155, M155, Hh155, G155⟩ := id V_ar_153
  obtain ⟨T155, h155, X155, e155, W155, st155⟩ := stC X153 hx hZ e153 Ar155 (j := (26 : Int32)) (inb_of S155 ⟨by decide, by decide⟩) (g := (mkF m 159 #[.val (.int pc)] [(.int (46 : Int32)), (.int (26 : Int32)), (.ref ar), (.ref ar)])) rfl rfl (hb hby dobjPlus_159)
  have V_ar_155 : Arv Z h155 ar k101 .char (29 : Int32) [(.int (73 : Int32)), (.int (68 : Int32)), (.int (76 : Int32)), (.int (58 : Int32)), (.int (111 : Int32)), (.int (109 : Int32)), (.int (103 : Int32)), (.int (46 : Int32)), (.int (111 : Int32)), (.int (114 : Int32)), (.int (103 : Int32)), (.int (47 : Int32)), (.int (67 : Int32)), (.int (79 : Int32)), (.int (82 : Int32)), (.int (66 : Int32)), (.int (65 : Int32)), (.int (47 : Int32)), (.int (79 : Int32)), (.int (98 : Int32)), (.int (106 : Int32)), (.int (101 : Int32)), (.int (99 : Int32)), (.int (116 : Int32)), (.int (58 : Int32)), (.int (49 : Int32)), (.int (46 : Int32)), (.int (0 : Int32)), (.int (0 : Int32))] (.int (0 : Int32)) := Arv.set Ar155 q155 S155 M155 Hh155 G155 (fits_nar_char _) W155 26 rfl (Nat.le_of_ble_eq_true rfl)
  have K155 : Keep h153 h155 [ar] := Keep.of_wr W155
  have KH156 : Keep h0 h155 [] := KH154.trans K155 (allS (Or.inr sz_ar) all0)
  have N155 := Fr.snoc X155 N153 g_ar
  obtain ⟨cl157, Ar157, q157, S157, M157, Hh157, G157⟩ := id V_ar_155
  obtain ⟨T157, h157, X157, e157, W157, st157⟩ := stC X155 hx hZ e155 Ar157 (j := (27 : Int32)) (inb_of S157 ⟨by decide, by decide⟩) (g := (mkF m 165 #[.val (.int pc)] [(.int (48 : Int32)), (.int (27 : Int32)), (.ref ar), (.ref ar)])) rfl rfl (hb hby dobjPlus_165)
  have V_ar_157 : Arv Z h157 ar k101 .char (29 : Int32) [(.int (73 : Int32)), (.int (68 : Int32)), (.int (76 : Int32)), (.int (58 : Int32)), (.int (111 : Int32)), (.int (109 : Int32)), (.int (103 : Int32)), (.int (46 : Int32)), (.int (111 : Int32)), (.int (114 : Int32)), (.int (103 : Int32)), (.int (47 : Int32)), (.int (67 : Int32)), (.int (79 : Int32)), (.int (82 : Int32)), (.int (66 : Int32)), (.int (65 : Int32)), (.int (47 : Int32)), (.int (79 : Int32)), (.int (98 : Int32)), (.int (106 : Int32)), (.int (101 : Int32)), (.int (99 : Int32)), (.int (116 : Int32)), (.int (58 : Int32)), (.int (49 : Int32)), (.int (46 : Int32)), (.int (48 : Int32)), (.int (0 : Int32))] (.int (0 : Int32)) := Arv.set Ar157 q157 S157 M157 Hh157 G157 (fits_nar_char _) W157 27 rfl (Nat.le_of_ble_eq_true rfl)
  have K157 : Keep h155 h157 [ar] := Keep.of_wr W157
  have KH158 : Keep h0 h157 [] := KH156.trans K157 (allS (Or.inr sz_ar) all0)
  have N157 := Fr.snoc X157 N155 g_ar
  obtain ⟨cl159, Ar159, q159, S159, M159, Hh159, G159⟩ := id V_ar_157
  obtain ⟨T159, h159, X159, e159, W159, st159⟩ := stC X157 hx hZ e157 Ar159 (j := (28 : Int32)) (inb_of S159 ⟨by decide, by decide⟩) (g := (mkF m 170 #[.val (.int pc)] [(.int pc), (.int (28 : Int32)), (.ref ar), (.ref ar)])) rfl rfl (hb hby dobjPlus_170)
  have V_ar_159 : Arv Z h159 ar k101 .char (29 : Int32) [(.int (73 : Int32)), (.int (68 : Int32)), (.int (76 : Int32)), (.int (58 : Int32)), (.int (111 : Int32)), (.int (109 : Int32)), (.int (103 : Int32)), (.int (46 : Int32)), (.int (111 : Int32)), (.int (114 : Int32)), (.int (103 : Int32)), (.int (47 : Int32)), (.int (67 : Int32)), (.int (79 : Int32)), (.int (82 : Int32)), (.int (66 : Int32)), (.int (65 : Int32)), (.int (47 : Int32)), (.int (79 : Int32)), (.int (98 : Int32)), (.int (106 : Int32)), (.int (101 : Int32)), (.int (99 : Int32)), (.int (116 : Int32)), (.int (58 : Int32)), (.int (49 : Int32)), (.int (46 : Int32)), (.int (48 : Int32)), (.int (nar .char pc))] (.int (0 : Int32)) := Arv.set Ar159 q159 S159 M159 Hh159 G159 (fits_nar_char _) W159 28 rfl (Nat.le_of_ble_eq_true rfl)
  have K159 : Keep h157 h159 [ar] := Keep.of_wr W159
  have KH160 : Keep h0 h159 [] := KH158.trans K159 (allS (Or.inr sz_ar) all0)
  have N159 := Fr.snoc X159 N157 g_ar
  obtain ⟨fs, hr, hrun, hended, hW, hsame⟩ := X159.leave (v := some (.ref ar)) (fun h => by rw [Bd.returns] at h; cases h)
  refine ⟨_, _, go0 _ ?_, hrun, hended, _, _, rfl, ?_, ⟨_, rfl⟩, hW, hsame.mono (by decide) (by decide)⟩
  · show Steps p.tables e below (s₁.setTop (mkF m 0 #[.val (.int pc)] [])) _
    refine XS.bipush X0.here hx rfl (hb hby dobjPlus_0) ?_
    show Steps p.tables e below (s₁.setTop (mkF m 2 #[.val (.int pc)] [(.int (29 : Int32))])) _
    refine st101 _ ?_
    show Steps p.tables e below (T101.setTop (mkF m 4 #[.val (.int pc)] [(.ref ar)])) _
    refine XS.dup X101.here hx rfl (hb hby dobjPlus_4) rfl rfl ?_
    show Steps p.tables e below (T101.setTop (mkF m 5 #[.val (.int pc)] [(.ref ar), (.ref ar)])) _
    refine XS.iconst X101.here hx rfl (hb hby dobjPlus_5) ?_
    show Steps p.tables e below (T101.setTop (mkF m 6 #[.val (.int pc)] [(.int (0 : Int32)), (.ref ar), (.ref ar)])) _
    refine XS.bipush X101.here hx rfl (hb hby dobjPlus_6) ?_
    show Steps p.tables e below (T101.setTop (mkF m 8 #[.val (.int pc)] [(.int (73 : Int32)), (.int (0 : Int32)), (.ref ar), (.ref ar)])) _
    refine st103 _ ?_
    show Steps p.tables e below (T103.setTop (mkF m 9 #[.val (.int pc)] [(.ref ar)])) _
    refine XS.dup X103.here hx rfl (hb hby dobjPlus_9) rfl rfl ?_
    show Steps p.tables e below (T103.setTop (mkF m 10 #[.val (.int pc)] [(.ref ar), (.ref ar)])) _
    refine XS.iconst X103.here hx rfl (hb hby dobjPlus_10) ?_
    show Steps p.tables e below (T103.setTop (mkF m 11 #[.val (.int pc)] [(.int (1 : Int32)), (.ref ar), (.ref ar)])) _
    refine XS.bipush X103.here hx rfl (hb hby dobjPlus_11) ?_
    show Steps p.tables e below (T103.setTop (mkF m 13 #[.val (.int pc)] [(.int (68 : Int32)), (.int (1 : Int32)), (.ref ar), (.ref ar)])) _
    refine st105 _ ?_
    show Steps p.tables e below (T105.setTop (mkF m 14 #[.val (.int pc)] [(.ref ar)])) _
    refine XS.dup X105.here hx rfl (hb hby dobjPlus_14) rfl rfl ?_
    show Steps p.tables e below (T105.setTop (mkF m 15 #[.val (.int pc)] [(.ref ar), (.ref ar)])) _
    refine XS.iconst X105.here hx rfl (hb hby dobjPlus_15) ?_
    show Steps p.tables e below (T105.setTop (mkF m 16 #[.val (.int pc)] [(.int (2 : Int32)), (.ref ar), (.ref ar)])) _
    refine XS.bipush X105.here hx rfl (hb hby dobjPlus_16) ?_
    show Steps p.tables e below (T105.setTop (mkF m 18 #[.val (.int pc)] [(.int (76 : Int32)), (.int (2 : Int32)), (.ref ar), (.ref ar)])) _
    refine st107 _ ?_
    show Steps p.tables e below (T107.setTop (mkF m 19 #[.val (.int pc)] [(.ref ar)])) _
    refine XS.dup X107.here hx rfl (hb hby dobjPlus_19) rfl rfl ?_
    show Steps p.tables e below (T107.setTop (mkF m 20 #[.val (.int pc)] [(.ref ar), (.ref ar)])) _
    refine XS.iconst X107.here hx rfl (hb hby dobjPlus_20) ?_
    show Steps p.tables e below (T107.setTop (mkF m 21 #[.val (.int pc)] [(.int (3 : Int32)), (.ref ar), (.ref ar)])) _
    refine XS.bipush X107.here hx rfl (hb hby dobjPlus_21) ?_
    show Steps p.tables e below (T107.setTop (mkF m 23 #[.val (.int pc)] [(.int (58 : Int32)), (.int (3 : Int32)), (.ref ar), (.ref ar)])) _
    refine st109 _ ?_
    show Steps p.tables e below (T109.setTop (mkF m 24 #[.val (.int pc)] [(.ref ar)])) _
    refine XS.dup X109.here hx rfl (hb hby dobjPlus_24) rfl rfl ?_
    show Steps p.tables e below (T109.setTop (mkF m 25 #[.val (.int pc)] [(.ref ar), (.ref ar)])) _
    refine XS.iconst X109.here hx rfl (hb hby dobjPlus_25) ?_
    show Steps p.tables e below (T109.setTop (mkF m 26 #[.val (.int pc)] [(.int (4 : Int32)), (.ref ar), (.ref ar)])) _
    refine XS.bipush X109.here hx rfl (hb hby dobjPlus_26) ?_
    show Steps p.tables e below (T109.setTop (mkF m 28 #[.val (.int pc)] [(.int (111 : Int32)), (.int (4 : Int32)), (.ref ar), (.ref ar)])) _
    refine st111 _ ?_
    show Steps p.tables e below (T111.setTop (mkF m 29 #[.val (.int pc)] [(.ref ar)])) _
    refine XS.dup X111.here hx rfl (hb hby dobjPlus_29) rfl rfl ?_
    show Steps p.tables e below (T111.setTop (mkF m 30 #[.val (.int pc)] [(.ref ar), (.ref ar)])) _
    refine XS.iconst X111.here hx rfl (hb hby dobjPlus_30) ?_
    show Steps p.tables e below (T111.setTop (mkF m 31 #[.val (.int pc)] [(.int (5 : Int32)), (.ref ar), (.ref ar)])) _
    refine XS.bipush X111.here hx rfl (hb hby dobjPlus_31) ?_
    show Steps p.tables e below (T111.setTop (mkF m 33 #[.val (.int pc)] [(.int (109 : Int32)), (.int (5 : Int32)), (.ref ar), (.ref ar)])) _
    refine st113 _ ?_
    show Steps p.tables e below (T113.setTop (mkF m 34 #[.val (.int pc)] [(.ref ar)])) _
    refine XS.dup X113.here hx rfl (hb hby dobjPlus_34) rfl rfl ?_
    show Steps p.tables e below (T113.setTop (mkF m 35 #[.val (.int pc)] [(.ref ar), (.ref ar)])) _
    refine XS.bipush X113.here hx rfl (hb hby dobjPlus_35) ?_
    show Steps p.tables e below (T113.setTop (mkF m 37 #[.val (.int pc)] [(.int (6 : Int32)), (.ref ar), (.ref ar)])) _
    refine XS.bipush X113.here hx rfl (hb hby dobjPlus_37) ?_
    show Steps p.tables e below (T113.setTop (mkF m 39 #[.val (.int pc)] [(.int (103 : Int32)), (.int (6 : Int32)), (.ref ar), (.ref ar)])) _
    refine st115 _ ?_
    show Steps p.tables e below (T115.setTop (mkF m 40 #[.val (.int pc)] [(.ref ar)])) _
    refine XS.dup X115.here hx rfl (hb hby dobjPlus_40) rfl rfl ?_
    show Steps p.tables e below (T115.setTop (mkF m 41 #[.val (.int pc)] [(.ref ar), (.ref ar)])) _
    refine XS.bipush X115.here hx rfl (hb hby dobjPlus_41) ?_
    show Steps p.tables e below (T115.setTop (mkF m 43 #[.val (.int pc)] [(.int (7 : Int32)), (.ref ar), (.ref ar)])) _
    refine XS.bipush X115.here hx rfl (hb hby dobjPlus_43) ?_
    show Steps p.tables e below (T115.setTop (mkF m 45 #[.val (.int pc)] [(.int (46 : Int32)), (.int (7 : Int32)), (.ref ar), (.ref ar)])) _
    refine st117 _ ?_
    show Steps p.tables e below (T117.setTop (mkF m 46 #[.val (.int pc)] [(.ref ar)])) _
    refine XS.dup X117.here hx rfl (hb hby dobjPlus_46) rfl rfl ?_
    show Steps p.tables e below (T117.setTop (mkF m 47 #[.val (.int pc)] [(.ref ar), (.ref ar)])) _
    refine XS.bipush X117.here hx rfl (hb hby dobjPlus_47) ?_
    show Steps p.tables e below (T117.setTop (mkF m 49 #[.val (.int pc)] [(.int (8 : Int32)), (.ref ar), (.ref ar)])) _
    refine XS.bipush X117.here hx rfl (hb hby dobjPlus_49) ?_
    show Steps p.tables e below (T117.setTop (mkF m 51 #[.val (.int pc)] [(.int (111 : Int32)), (.int (8 : Int32)), (.ref ar), (.ref ar)])) _
    refine st119 _ ?_
    show Steps p.tables e below (T119.setTop (mkF m 52 #[.val (.int pc)] [(.ref ar)])) _
    refine XS.dup X119.here hx rfl (hb hby dobjPlus_52) rfl rfl ?_
    show Steps p.tables e below (T119.setTop (mkF m 53 #[.val (.int pc)] [(.ref ar), (.ref ar)])) _
    refine XS.bipush X119.here hx rfl (hb hby dobjPlus_53) ?_
    show Steps p.tables e below (T119.setTop (mkF m 55 #[.val (.int pc)] [(.int (9 : Int32)), (.ref ar), (.ref ar)])) _
    refine XS.bipush X119.here hx rfl (hb hby dobjPlus_55) ?_
    show Steps p.tables e below (T119.setTop (mkF m 57 #[.val (.int pc)] [(.int (114 : Int32)), (.int (9 : Int32)), (.ref ar), (.ref ar)])) _
    refine st121 _ ?_
    show Steps p.tables e below (T121.setTop (mkF m 58 #[.val (.int pc)] [(.ref ar)])) _
    refine XS.dup X121.here hx rfl (hb hby dobjPlus_58) rfl rfl ?_
    show Steps p.tables e below (T121.setTop (mkF m 59 #[.val (.int pc)] [(.ref ar), (.ref ar)])) _
    refine XS.bipush X121.here hx rfl (hb hby dobjPlus_59) ?_
    show Steps p.tables e below (T121.setTop (mkF m 61 #[.val (.int pc)] [(.int (10 : Int32)), (.ref ar), (.ref ar)])) _
    refine XS.bipush X121.here hx rfl (hb hby dobjPlus_61) ?_
    show Steps p.tables e below (T121.setTop (mkF m 63 #[.val (.int pc)] [(.int (103 : Int32)), (.int (10 : Int32)), (.ref ar), (.ref ar)])) _
    refine st123 _ ?_
    show Steps p.tables e below (T123.setTop (mkF m 64 #[.val (.int pc)] [(.ref ar)])) _
    refine XS.dup X123.here hx rfl (hb hby dobjPlus_64) rfl rfl ?_
    show Steps p.tables e below (T123.setTop (mkF m 65 #[.val (.int pc)] [(.ref ar), (.ref ar)])) _
    refine XS.bipush X123.here hx rfl (hb hby dobjPlus_65) ?_
    show Steps p.tables e below (T123.setTop (mkF m 67 #[.val (.int pc)] [(.int (11 : Int32)), (.ref ar), (.ref ar)])) _
    refine XS.bipush X123.here hx rfl (hb hby dobjPlus_67) ?_
    show Steps p.tables e below (T123.setTop (mkF m 69 #[.val (.int pc)] [(.int (47 : Int32)), (.int (11 : Int32)), (.ref ar), (.ref ar)])) _
    refine st125 _ ?_
    show Steps p.tables e below (T125.setTop (mkF m 70 #[.val (.int pc)] [(.ref ar)])) _
    refine XS.dup X125.here hx rfl (hb hby dobjPlus_70) rfl rfl ?_
    show Steps p.tables e below (T125.setTop (mkF m 71 #[.val (.int pc)] [(.ref ar), (.ref ar)])) _
    refine XS.bipush X125.here hx rfl (hb hby dobjPlus_71) ?_
    show Steps p.tables e below (T125.setTop (mkF m 73 #[.val (.int pc)] [(.int (12 : Int32)), (.ref ar), (.ref ar)])) _
    refine XS.bipush X125.here hx rfl (hb hby dobjPlus_73) ?_
    show Steps p.tables e below (T125.setTop (mkF m 75 #[.val (.int pc)] [(.int (67 : Int32)), (.int (12 : Int32)), (.ref ar), (.ref ar)])) _
    refine st127 _ ?_
    show Steps p.tables e below (T127.setTop (mkF m 76 #[.val (.int pc)] [(.ref ar)])) _
    refine XS.dup X127.here hx rfl (hb hby dobjPlus_76) rfl rfl ?_
    show Steps p.tables e below (T127.setTop (mkF m 77 #[.val (.int pc)] [(.ref ar), (.ref ar)])) _
    refine XS.bipush X127.here hx rfl (hb hby dobjPlus_77) ?_
    show Steps p.tables e below (T127.setTop (mkF m 79 #[.val (.int pc)] [(.int (13 : Int32)), (.ref ar), (.ref ar)])) _
    refine XS.bipush X127.here hx rfl (hb hby dobjPlus_79) ?_
    show Steps p.tables e below (T127.setTop (mkF m 81 #[.val (.int pc)] [(.int (79 : Int32)), (.int (13 : Int32)), (.ref ar), (.ref ar)])) _
    refine st129 _ ?_
    show Steps p.tables e below (T129.setTop (mkF m 82 #[.val (.int pc)] [(.ref ar)])) _
    refine XS.dup X129.here hx rfl (hb hby dobjPlus_82) rfl rfl ?_
    show Steps p.tables e below (T129.setTop (mkF m 83 #[.val (.int pc)] [(.ref ar), (.ref ar)])) _
    refine XS.bipush X129.here hx rfl (hb hby dobjPlus_83) ?_
    show Steps p.tables e below (T129.setTop (mkF m 85 #[.val (.int pc)] [(.int (14 : Int32)), (.ref ar), (.ref ar)])) _
    refine XS.bipush X129.here hx rfl (hb hby dobjPlus_85) ?_
    show Steps p.tables e below (T129.setTop (mkF m 87 #[.val (.int pc)] [(.int (82 : Int32)), (.int (14 : Int32)), (.ref ar), (.ref ar)])) _
    refine st131 _ ?_
    show Steps p.tables e below (T131.setTop (mkF m 88 #[.val (.int pc)] [(.ref ar)])) _
    refine XS.dup X131.here hx rfl (hb hby dobjPlus_88) rfl rfl ?_
    show Steps p.tables e below (T131.setTop (mkF m 89 #[.val (.int pc)] [(.ref ar), (.ref ar)])) _
    refine XS.bipush X131.here hx rfl (hb hby dobjPlus_89) ?_
    show Steps p.tables e below (T131.setTop (mkF m 91 #[.val (.int pc)] [(.int (15 : Int32)), (.ref ar), (.ref ar)])) _
    refine XS.bipush X131.here hx rfl (hb hby dobjPlus_91) ?_
    show Steps p.tables e below (T131.setTop (mkF m 93 #[.val (.int pc)] [(.int (66 : Int32)), (.int (15 : Int32)), (.ref ar), (.ref ar)])) _
    refine st133 _ ?_
    show Steps p.tables e below (T133.setTop (mkF m 94 #[.val (.int pc)] [(.ref ar)])) _
    refine XS.dup X133.here hx rfl (hb hby dobjPlus_94) rfl rfl ?_
    show Steps p.tables e below (T133.setTop (mkF m 95 #[.val (.int pc)] [(.ref ar), (.ref ar)])) _
    refine XS.bipush X133.here hx rfl (hb hby dobjPlus_95) ?_
    show Steps p.tables e below (T133.setTop (mkF m 97 #[.val (.int pc)] [(.int (16 : Int32)), (.ref ar), (.ref ar)])) _
    refine XS.bipush X133.here hx rfl (hb hby dobjPlus_97) ?_
    show Steps p.tables e below (T133.setTop (mkF m 99 #[.val (.int pc)] [(.int (65 : Int32)), (.int (16 : Int32)), (.ref ar), (.ref ar)])) _
    refine st135 _ ?_
    show Steps p.tables e below (T135.setTop (mkF m 100 #[.val (.int pc)] [(.ref ar)])) _
    refine XS.dup X135.here hx rfl (hb hby dobjPlus_100) rfl rfl ?_
    show Steps p.tables e below (T135.setTop (mkF m 101 #[.val (.int pc)] [(.ref ar), (.ref ar)])) _
    refine XS.bipush X135.here hx rfl (hb hby dobjPlus_101) ?_
    show Steps p.tables e below (T135.setTop (mkF m 103 #[.val (.int pc)] [(.int (17 : Int32)), (.ref ar), (.ref ar)])) _
    refine XS.bipush X135.here hx rfl (hb hby dobjPlus_103) ?_
    show Steps p.tables e below (T135.setTop (mkF m 105 #[.val (.int pc)] [(.int (47 : Int32)), (.int (17 : Int32)), (.ref ar), (.ref ar)])) _
    refine st137 _ ?_
    show Steps p.tables e below (T137.setTop (mkF m 106 #[.val (.int pc)] [(.ref ar)])) _
    refine XS.dup X137.here hx rfl (hb hby dobjPlus_106) rfl rfl ?_
    show Steps p.tables e below (T137.setTop (mkF m 107 #[.val (.int pc)] [(.ref ar), (.ref ar)])) _
    refine XS.bipush X137.here hx rfl (hb hby dobjPlus_107) ?_
    show Steps p.tables e below (T137.setTop (mkF m 109 #[.val (.int pc)] [(.int (18 : Int32)), (.ref ar), (.ref ar)])) _
    refine XS.bipush X137.here hx rfl (hb hby dobjPlus_109) ?_
    show Steps p.tables e below (T137.setTop (mkF m 111 #[.val (.int pc)] [(.int (79 : Int32)), (.int (18 : Int32)), (.ref ar), (.ref ar)])) _
    refine st139 _ ?_
    show Steps p.tables e below (T139.setTop (mkF m 112 #[.val (.int pc)] [(.ref ar)])) _
    refine XS.dup X139.here hx rfl (hb hby dobjPlus_112) rfl rfl ?_
    show Steps p.tables e below (T139.setTop (mkF m 113 #[.val (.int pc)] [(.ref ar), (.ref ar)])) _
    refine XS.bipush X139.here hx rfl (hb hby dobjPlus_113) ?_
    show Steps p.tables e below (T139.setTop (mkF m 115 #[.val (.int pc)] [(.int (19 : Int32)), (.ref ar), (.ref ar)])) _
    refine XS.bipush X139.here hx rfl (hb hby dobjPlus_115) ?_
    show Steps p.tables e below (T139.setTop (mkF m 117 #[.val (.int pc)] [(.int (98 : Int32)), (.int (19 : Int32)), (.ref ar), (.ref ar)])) _
    refine st141 _ ?_
    show Steps p.tables e below (T141.setTop (mkF m 118 #[.val (.int pc)] [(.ref ar)])) _
    refine XS.dup X141.here hx rfl (hb hby dobjPlus_118) rfl rfl ?_
    show Steps p.tables e below (T141.setTop (mkF m 119 #[.val (.int pc)] [(.ref ar), (.ref ar)])) _
    refine XS.bipush X141.here hx rfl (hb hby dobjPlus_119) ?_
    show Steps p.tables e below (T141.setTop (mkF m 121 #[.val (.int pc)] [(.int (20 : Int32)), (.ref ar), (.ref ar)])) _
    refine XS.bipush X141.here hx rfl (hb hby dobjPlus_121) ?_
    show Steps p.tables e below (T141.setTop (mkF m 123 #[.val (.int pc)] [(.int (106 : Int32)), (.int (20 : Int32)), (.ref ar), (.ref ar)])) _
    refine st143 _ ?_
    show Steps p.tables e below (T143.setTop (mkF m 124 #[.val (.int pc)] [(.ref ar)])) _
    refine XS.dup X143.here hx rfl (hb hby dobjPlus_124) rfl rfl ?_
    show Steps p.tables e below (T143.setTop (mkF m 125 #[.val (.int pc)] [(.ref ar), (.ref ar)])) _
    refine XS.bipush X143.here hx rfl (hb hby dobjPlus_125) ?_
    show Steps p.tables e below (T143.setTop (mkF m 127 #[.val (.int pc)] [(.int (21 : Int32)), (.ref ar), (.ref ar)])) _
    refine XS.bipush X143.here hx rfl (hb hby dobjPlus_127) ?_
    show Steps p.tables e below (T143.setTop (mkF m 129 #[.val (.int pc)] [(.int (101 : Int32)), (.int (21 : Int32)), (.ref ar), (.ref ar)])) _
    refine st145 _ ?_
    show Steps p.tables e below (T145.setTop (mkF m 130 #[.val (.int pc)] [(.ref ar)])) _
    refine XS.dup X145.here hx rfl (hb hby dobjPlus_130) rfl rfl ?_
    show Steps p.tables e below (T145.setTop (mkF m 131 #[.val (.int pc)] [(.ref ar), (.ref ar)])) _
    refine XS.bipush X145.here hx rfl (hb hby dobjPlus_131) ?_
    show Steps p.tables e below (T145.setTop (mkF m 133 #[.val (.int pc)] [(.int (22 : Int32)), (.ref ar), (.ref ar)])) _
    refine XS.bipush X145.here hx rfl (hb hby dobjPlus_133) ?_
    show Steps p.tables e below (T145.setTop (mkF m 135 #[.val (.int pc)] [(.int (99 : Int32)), (.int (22 : Int32)), (.ref ar), (.ref ar)])) _
    refine st147 _ ?_
    show Steps p.tables e below (T147.setTop (mkF m 136 #[.val (.int pc)] [(.ref ar)])) _
    refine XS.dup X147.here hx rfl (hb hby dobjPlus_136) rfl rfl ?_
    show Steps p.tables e below (T147.setTop (mkF m 137 #[.val (.int pc)] [(.ref ar), (.ref ar)])) _
    refine XS.bipush X147.here hx rfl (hb hby dobjPlus_137) ?_
    show Steps p.tables e below (T147.setTop (mkF m 139 #[.val (.int pc)] [(.int (23 : Int32)), (.ref ar), (.ref ar)])) _
    refine XS.bipush X147.here hx rfl (hb hby dobjPlus_139) ?_
    show Steps p.tables e below (T147.setTop (mkF m 141 #[.val (.int pc)] [(.int (116 : Int32)), (.int (23 : Int32)), (.ref ar), (.ref ar)])) _
    refine st149 _ ?_
    show Steps p.tables e below (T149.setTop (mkF m 142 #[.val (.int pc)] [(.ref ar)])) _
    refine XS.dup X149.here hx rfl (hb hby dobjPlus_142) rfl rfl ?_
    show Steps p.tables e below (T149.setTop (mkF m 143 #[.val (.int pc)] [(.ref ar), (.ref ar)])) _
    refine XS.bipush X149.here hx rfl (hb hby dobjPlus_143) ?_
    show Steps p.tables e below (T149.setTop (mkF m 145 #[.val (.int pc)] [(.int (24 : Int32)), (.ref ar), (.ref ar)])) _
    refine XS.bipush X149.here hx rfl (hb hby dobjPlus_145) ?_
    show Steps p.tables e below (T149.setTop (mkF m 147 #[.val (.int pc)] [(.int (58 : Int32)), (.int (24 : Int32)), (.ref ar), (.ref ar)])) _
    refine st151 _ ?_
    show Steps p.tables e below (T151.setTop (mkF m 148 #[.val (.int pc)] [(.ref ar)])) _
    refine XS.dup X151.here hx rfl (hb hby dobjPlus_148) rfl rfl ?_
    show Steps p.tables e below (T151.setTop (mkF m 149 #[.val (.int pc)] [(.ref ar), (.ref ar)])) _
    refine XS.bipush X151.here hx rfl (hb hby dobjPlus_149) ?_
    show Steps p.tables e below (T151.setTop (mkF m 151 #[.val (.int pc)] [(.int (25 : Int32)), (.ref ar), (.ref ar)])) _
    refine XS.bipush X151.here hx rfl (hb hby dobjPlus_151) ?_
    show Steps p.tables e below (T151.setTop (mkF m 153 #[.val (.int pc)] [(.int (49 : Int32)), (.int (25 : Int32)), (.ref ar), (.ref ar)])) _
    refine st153 _ ?_
    show Steps p.tables e below (T153.setTop (mkF m 154 #[.val (.int pc)] [(.ref ar)])) _
    refine XS.dup X153.here hx rfl (hb hby dobjPlus_154) rfl rfl ?_
    show Steps p.tables e below (T153.setTop (mkF m 155 #[.val (.int pc)] [(.ref ar), (.ref ar)])) _
    refine XS.bipush X153.here hx rfl (hb hby dobjPlus_155) ?_
    show Steps p.tables e below (T153.setTop (mkF m 157 #[.val (.int pc)] [(.int (26 : Int32)), (.ref ar), (.ref ar)])) _
    refine XS.bipush X153.here hx rfl (hb hby dobjPlus_157) ?_
    show Steps p.tables e below (T153.setTop (mkF m 159 #[.val (.int pc)] [(.int (46 : Int32)), (.int (26 : Int32)), (.ref ar), (.ref ar)])) _
    refine st155 _ ?_
    show Steps p.tables e below (T155.setTop (mkF m 160 #[.val (.int pc)] [(.ref ar)])) _
    refine XS.dup X155.here hx rfl (hb hby dobjPlus_160) rfl rfl ?_
    show Steps p.tables e below (T155.setTop (mkF m 161 #[.val (.int pc)] [(.ref ar), (.ref ar)])) _
    refine XS.bipush X155.here hx rfl (hb hby dobjPlus_161) ?_
    show Steps p.tables e below (T155.setTop (mkF m 163 #[.val (.int pc)] [(.int (27 : Int32)), (.ref ar), (.ref ar)])) _
    refine XS.bipush X155.here hx rfl (hb hby dobjPlus_163) ?_
    show Steps p.tables e below (T155.setTop (mkF m 165 #[.val (.int pc)] [(.int (48 : Int32)), (.int (27 : Int32)), (.ref ar), (.ref ar)])) _
    refine st157 _ ?_
    show Steps p.tables e below (T157.setTop (mkF m 166 #[.val (.int pc)] [(.ref ar)])) _
    refine XS.dup X157.here hx rfl (hb hby dobjPlus_166) rfl rfl ?_
    show Steps p.tables e below (T157.setTop (mkF m 167 #[.val (.int pc)] [(.ref ar), (.ref ar)])) _
    refine XS.bipush X157.here hx rfl (hb hby dobjPlus_167) ?_
    show Steps p.tables e below (T157.setTop (mkF m 169 #[.val (.int pc)] [(.int (28 : Int32)), (.ref ar), (.ref ar)])) _
    refine XS.iloadN X157.here hx rfl (hb hby dobjPlus_169) rfl ?_
    show Steps p.tables e below (T157.setTop (mkF m 170 #[.val (.int pc)] [(.int pc), (.int (28 : Int32)), (.ref ar), (.ref ar)])) _
    refine st159 _ ?_
    show Steps p.tables e below (T159.setTop (mkF m 171 #[.val (.int pc)] [(.ref ar)])) _
    jvm_step X159.here [X159.here.top, hx, (hb hby dobjPlus_171), X159.method', Bd.returns, Value.isRef, FieldType.isReference]
    first | (intro acts; rw [hr _ acts rfl rfl rfl]) | rw [hr _ _ rfl rfl rfl]
    exact Steps.refl _
  · show QA Z (29 : Int32) (own_L1 ++ [nar .char pc]) h0 n0 _ T159.heap _
    rw [e159]
    exact ⟨_, _, rfl, N159, KH160, g_ar, sz_ar, V_ar_159⟩
theorem dCE_0 : decode jdk_43_method_3_code 0 = .ok (.iload_n 0, 1) := by decide +kernel
theorem dCE_1 : decode jdk_43_method_3_code 1 = .ok (.sipush 255, 3) := by decide +kernel
theorem dCE_4 : decode jdk_43_method_3_code 4 = .ok (.if_icmp .gt 7, 3) := by decide +kernel
theorem dCE_7 : decode jdk_43_method_3_code 7 = .ok (.iconst 1, 1) := by decide +kernel
theorem dCE_8 : decode jdk_43_method_3_code 8 = .ok (.goto 4, 3) := by decide +kernel
theorem dCE_12 : decode jdk_43_method_3_code 12 = .ok (.ireturn, 1) := by decide +kernel
theorem pnCE : plainName "java/lang/StringLatin1" = true := by first | (simp [plainName, overriddenIn]; done) | decide +kernel
theorem efCE (m : MethodId) (x0 : Int32) : entryFrame m #[(.int x0)] 1 = mkF m 0 #[.val (.int x0)] [] := by first | (simp [entryFrame, mkF, argsToLocals, Value.category]; done) | rfl
def QCE (h0 : Heap) (n0 : Nat) (v : Option Value) (h : Heap) (L : List Loc) : Prop := v = some (.int (1 : Int32)) ∧ Fr n0 L ∧ h = h0
set_option maxRecDepth 65536 in
set_option maxHeartbeats 40000000 in
theorem rmCE (l : Launch) (Z : State) (a0 : Array Value) (hw : ∀ d ∈ tables_1, d.before a0 Z = true) (ws : List Jvm.Cond) (p1 : Int32) (h0 : Heap) (n0 : Nat) (hc : ¬ ((255 : Int32) < p1)) :
    MetFree l (⟨"java/lang/StringLatin1", "canEncode", "(C)Z"⟩ : MethodName) (head1 (Jvm.Cond.code (⟨"java/lang/StringLatin1", "canEncode", "(C)Z"⟩ : MethodName) jdk_43_method_3_code 1 (some .boolean) :: ws) ({ frames := 0, cells := 0, slots := 0, locals := 0 } : Room)) (fun a U => a = #[(.int p1)] ∧ Z.Warmed39 U.vm ∧ U.heap = h0) (fun _ _ _ _ _ => True) (fun _ U o U' => ∃ v L, o = .returned v ∧ QCE h0 n0 v U'.heap L ∧ FrameEnd U o U' L ({ frames := 0, cells := 0, slots := 0, locals := 0 } : Room).cells ({ frames := 0, cells := 0, slots := 0, locals := 0 } : Room).slots) := by
  refine MetFree.of_bodySF (plainFor_of_name pnCE) hisR ?_
  intro p e s m args below meth c s₁ Bd hml0 hP hK
  obtain ⟨rfl, hZ, hh⟩ := hP
  have hx := Bd.exec
  have hby := Bd.bytes
  have hml : c.maxLocals = 1 := hml0
  have hown : s.vm.findClass "java/lang/StringLatin1" = some m.cls := findClass_of_methodNamed Bd.named
  have hnm := (name_of_methodNamed Bd.named Bd.method).1
  have X0 : Stand p l e ({ frames := 0, cells := 0, slots := 0, locals := 0 } : Room) s m #[(.int p1)] below meth c s₁ [] 0 0 := Stand.of_body Bd
  have e0 : s₁.heap = h0 := by rw [← hh, Bd.state]; rfl
  have N0 := Fr.nil n0
  have go0 : ∀ tg_, Steps p.tables e below (s₁.setTop (mkF m 0 #[.val (.int p1)] [])) tg_ → Steps p.tables e below (s₁.setTop (entryFrame m #[(.int p1)] 1)) tg_ := fun tg_ k => castTop (efCE m p1) k
  obtain ⟨fs, hr, hrun, hended, hW, hsame⟩ := X0.leave (v := some (.int (1 : Int32))) (fun h => by rw [Bd.returns] at h; cases h)
  refine ⟨_, _, go0 _ ?_, hrun, hended, _, _, rfl, ?_, ⟨_, rfl⟩, hW, hsame.mono (by decide) (by decide)⟩
  · show Steps p.tables e below (s₁.setTop (mkF m 0 #[.val (.int p1)] [])) _
    refine XS.iloadN X0.here hx rfl (hb hby dCE_0) rfl ?_
    show Steps p.tables e below (s₁.setTop (mkF m 1 #[.val (.int p1)] [(.int p1)])) _
    refine XS.sipush X0.here hx rfl (hb hby dCE_1) ?_
    show Steps p.tables e below (s₁.setTop (mkF m 4 #[.val (.int p1)] [(.int (255 : Int32)), (.int p1)])) _
    refine XS.icmpNo X0.here hx rfl (hb hby dCE_4) rfl (flt (hc : ¬ ((255 : Int32) < p1))).2.2.1 ?_
    show Steps p.tables e below (s₁.setTop (mkF m 7 #[.val (.int p1)] [])) _
    refine XS.iconst X0.here hx rfl (hb hby dCE_7) ?_
    show Steps p.tables e below (s₁.setTop (mkF m 8 #[.val (.int p1)] [(.int (1 : Int32))])) _
    refine XS.goto X0.here hx rfl (pc0 := 8) (pc' := 12) rfl (hb hby dCE_8) (by decide) (by decide) ?_
    show Steps p.tables e below (s₁.setTop (mkF m 12 #[.val (.int p1)] [(.int (1 : Int32))])) _
    exact retN X0 hx (t := .boolean) Bd.returns (by simp) (hb hby dCE_12) hr
  · show QCE h0 n0 _ s₁.heap _
    rw [e0]
    exact ⟨rfl, N0, rfl⟩
theorem dTB_0 : decode jdk_43_method_46_code 0 = .ok (.iconst 1, 1) := by decide +kernel
theorem dTB_1 : decode jdk_43_method_46_code 1 = .ok (.newarray .byte, 2) := by decide +kernel
theorem dTB_3 : decode jdk_43_method_46_code 3 = .ok (.dup, 1) := by decide +kernel
theorem dTB_4 : decode jdk_43_method_46_code 4 = .ok (.iconst 0, 1) := by decide +kernel
theorem dTB_5 : decode jdk_43_method_46_code 5 = .ok (.iload_n 0, 1) := by decide +kernel
theorem dTB_6 : decode jdk_43_method_46_code 6 = .ok (.i2b, 1) := by decide +kernel
theorem dTB_7 : decode jdk_43_method_46_code 7 = .ok (.bastore, 1) := by decide +kernel
theorem dTB_8 : decode jdk_43_method_46_code 8 = .ok (.areturn, 1) := by decide +kernel
theorem efTB (m : MethodId) (x0 : Int32) : entryFrame m #[(.int x0)] 1 = mkF m 0 #[.val (.int x0)] [] := by first | (simp [entryFrame, mkF, argsToLocals, Value.category]; done) | rfl
def QTB (Z : State) (p1 : Int32) (h0 : Heap) (n0 : Nat) (v : Option Value) (h : Heap) (L : List Loc) : Prop := ∃ (b : Addr) (k : ClassId), v = some (.ref b) ∧ Fr n0 L ∧ Keep h0 h [] ∧ n0 ≤ b ∧ h0.size ≤ b ∧ Arv Z h b k .byte (1 : Int32) [(.int (p1.toInt8.toInt32))] (.int (0 : Int32))
set_option maxRecDepth 65536 in
set_option maxHeartbeats 40000000 in
theorem rmTB (l : Launch) (Z : State) (a0 : Array Value) (hw : ∀ d ∈ tables_1, d.before a0 Z = true) (ws : List Jvm.Cond) (p1 : Int32) (h0 : Heap) (n0 : Nat) (Z0 : n0 ≤ h0.size) :
    MetFree l (⟨"java/lang/StringLatin1", "toBytes", "(C)[B"⟩ : MethodName) (head1 (Jvm.Cond.code (⟨"java/lang/StringLatin1", "toBytes", "(C)[B"⟩ : MethodName) jdk_43_method_46_code 1 (some (.array .byte)) :: ws) ({ frames := 0, cells := 1, slots := 1, locals := 0 } : Room)) (fun a U => a = #[(.int p1)] ∧ Z.Warmed39 U.vm ∧ U.heap = h0) (fun _ _ _ _ _ => True) (fun _ U o U' => ∃ v L, o = .returned v ∧ QTB Z p1 h0 n0 v U'.heap L ∧ FrameEnd U o U' L ({ frames := 0, cells := 1, slots := 1, locals := 0 } : Room).cells ({ frames := 0, cells := 1, slots := 1, locals := 0 } : Room).slots) := by
  refine MetFree.of_bodySF (plainFor_of_name pnCE) hisR ?_
  intro p e s m args below meth c s₁ Bd hml0 hP hK
  obtain ⟨rfl, hZ, hh⟩ := hP
  have hx := Bd.exec
  have hby := Bd.bytes
  have hml : c.maxLocals = 1 := hml0
  have hown : s.vm.findClass "java/lang/StringLatin1" = some m.cls := findClass_of_methodNamed Bd.named
  have hnm := (name_of_methodNamed Bd.named Bd.method).1
  have X0 : Stand p l e ({ frames := 0, cells := 1, slots := 1, locals := 0 } : Room) s m #[(.int p1)] below meth c s₁ [] 0 0 := Stand.of_body Bd
  have e0 : s₁.heap = h0 := by rw [← hh, Bd.state]; rfl
  have N0 := Fr.nil n0
  have go0 : ∀ tg_, Steps p.tables e below (s₁.setTop (mkF m 0 #[.val (.int p1)] [])) tg_ → Steps p.tables e below (s₁.setTop (entryFrame m #[(.int p1)] 1)) tg_ := fun tg_ k => castTop (efTB m p1) k
  have KH0 : Keep h0 h0 [] := Keep.refl h0 []
  obtain ⟨T101, h101, k101, X101, e101, E101, A101, st101⟩ := newP X0 hx hZ (hw _ (List.mem_of_getElem? (i := 36) rfl)) e0 (g := (mkF m 1 #[.val (.int p1)] [(.int (1 : Int32))])) rfl (hb hby dTB_1) rfl (by decide) (cap := 1) (by decide) (by decide) (by decide) (by decide)
  obtain ⟨b101, g101⟩ : ∃ z, z = h0.size := ⟨_, rfl⟩
  rw [← g101] at A101 st101
  have sz_b101 : h0.size ≤ b101 := Nat.le_trans KH0.1 (Nat.le_of_eq g101.symm)
  have g_b101 : n0 ≤ b101 := Nat.le_trans Z0 (Nat.le_of_eq g101.symm)
  have V_b101 : Arv Z h101 b101 k101 .byte (1 : Int32) [(.int (0 : Int32))] (.int (0 : Int32)) := (Arv.new A101 (by decide)).pad (pad_rep [] (.int (0 : Int32)) 1)
  have K101 : Keep h0 h101 [] := (Keep.refl _ []).ext E101
  have KH102 : Keep h0 h101 [] := KH0.trans K101 all0
  have lt_b101 : b101 < h101.size := V_b101.lt
  obtain ⟨cl103, Ar103, q103, S103, M103, Hh103, G103⟩ := id V_b101
  obtain ⟨T103, h103, X103, e103, W103, st103⟩ := stB X101 hx hZ e101 Ar103 (j := (0 : Int32)) (inb_of S103 ⟨by decide, by decide⟩) (g := (mkF m 7 #[.val (.int p1)] [(.int (p1.toInt8.toInt32)), (.int (0 : Int32)), (.ref b101), (.ref b101)])) rfl rfl (hb hby dTB_7)
  have V_b101_103 : Arv Z h103 b101 k101 .byte (1 : Int32) [(.int ((p1.toInt8.toInt32)).toInt8.toInt32)] (.int (0 : Int32)) := Arv.set Ar103 q103 S103 M103 Hh103 G103 (fits_nar_byte _) W103 0 rfl (Nat.le_of_ble_eq_true rfl)
  have K103 : Keep h101 h103 [b101] := Keep.of_wr W103
  have KH104 : Keep h0 h103 [] := KH102.trans K103 (allS (Or.inr sz_b101) all0)
  have N103 := Fr.snoc X103 N0 g_b101
  rw [own_lo8 p1] at V_b101_103
  obtain ⟨fs, hr, hrun, hended, hW, hsame⟩ := X103.leave (v := some (.ref b101)) (fun h => by rw [Bd.returns] at h; cases h)
  refine ⟨_, _, go0 _ ?_, hrun, hended, _, _, rfl, ?_, ⟨_, rfl⟩, hW, hsame.mono (by decide) (by decide)⟩
  · show Steps p.tables e below (s₁.setTop (mkF m 0 #[.val (.int p1)] [])) _
    refine XS.iconst X0.here hx rfl (hb hby dTB_0) ?_
    show Steps p.tables e below (s₁.setTop (mkF m 1 #[.val (.int p1)] [(.int (1 : Int32))])) _
    refine st101 _ ?_
    show Steps p.tables e below (T101.setTop (mkF m 3 #[.val (.int p1)] [(.ref b101)])) _
    refine XS.dup X101.here hx rfl (hb hby dTB_3) rfl rfl ?_
    show Steps p.tables e below (T101.setTop (mkF m 4 #[.val (.int p1)] [(.ref b101), (.ref b101)])) _
    refine XS.iconst X101.here hx rfl (hb hby dTB_4) ?_
    show Steps p.tables e below (T101.setTop (mkF m 5 #[.val (.int p1)] [(.int (0 : Int32)), (.ref b101), (.ref b101)])) _
    refine XS.iloadN X101.here hx rfl (hb hby dTB_5) rfl ?_
    show Steps p.tables e below (T101.setTop (mkF m 6 #[.val (.int p1)] [(.int p1), (.int (0 : Int32)), (.ref b101), (.ref b101)])) _
    refine XS.i2b X101.here hx rfl (hb hby dTB_6) rfl ?_
    show Steps p.tables e below (T101.setTop (mkF m 7 #[.val (.int p1)] [(.int (p1.toInt8.toInt32)), (.int (0 : Int32)), (.ref b101), (.ref b101)])) _
    refine st103 _ ?_
    show Steps p.tables e below (T103.setTop (mkF m 8 #[.val (.int p1)] [(.ref b101)])) _
    jvm_step X103.here [X103.here.top, hx, (hb hby dTB_8), X103.method', Bd.returns, Value.isRef, FieldType.isReference]
    first | (intro acts; rw [hr _ acts rfl rfl rfl]) | rw [hr _ _ rfl rfl rfl]
    exact Steps.refl _
  · show QTB Z p1 h0 n0 _ T103.heap _
    rw [e103]
    exact ⟨_, _, rfl, N103, KH104, g_b101, sz_b101, V_b101_103⟩
theorem dSB_0 : decode jdk_42_method_151_code 0 = .ok (.aload_n 0, 1) := by decide +kernel
theorem dSB_1 : decode jdk_42_method_151_code 1 = .ok (.invokespecial 1, 3) := by decide +kernel
theorem dSB_4 : decode jdk_42_method_151_code 4 = .ok (.aload_n 0, 1) := by decide +kernel
theorem dSB_5 : decode jdk_42_method_151_code 5 = .ok (.aload_n 1, 1) := by decide +kernel
theorem dSB_6 : decode jdk_42_method_151_code 6 = .ok (.putfield 9, 3) := by decide +kernel
theorem dSB_9 : decode jdk_42_method_151_code 9 = .ok (.aload_n 0, 1) := by decide +kernel
theorem dSB_10 : decode jdk_42_method_151_code 10 = .ok (.iload_n 2, 1) := by decide +kernel
theorem dSB_11 : decode jdk_42_method_151_code 11 = .ok (.putfield 15, 3) := by decide +kernel
theorem dSB_14 : decode jdk_42_method_151_code 14 = .ok (.return_, 1) := by decide +kernel
theorem pnST : plainName "java/lang/String" = true := by first | (simp [plainName, overriddenIn]; done) | decide +kernel
theorem efSB (m : MethodId) (x0 : Addr) (x1 : Addr) (x2 : Int32) : entryFrame m #[(.ref x0), (.ref x1), (.int x2)] 3 = mkF m 0 #[.val (.ref x0), .val (.ref x1), .val (.int x2)] [] := by first | (simp [entryFrame, mkF, argsToLocals, Value.category]; done) | rfl
def QSB (Z : State) (a1 a2 : Addr) (h0 : Heap) (n0 : Nat) (v : Option Value) (h : Heap) (L : List Loc) : Prop := v = none ∧ Fr n0 L ∧ Keep h0 h [a1] ∧ Exa Z h a1 "java/lang/String" ∧ Fld Z h a1 "java/lang/String" "value" "[B" (.ref a2) ∧ Fld Z h a1 "java/lang/String" "coder" "B" (.int (0 : Int32))
set_option maxRecDepth 65536 in
set_option maxHeartbeats 40000000 in
theorem rmSB (l : Launch) (Z : State) (a0 : Array Value) (hw : ∀ d ∈ tables_1, d.before a0 Z = true) (ws : List Jvm.Cond) (a1 a2 : Addr) (u1 u2 : Value) (h0 : Heap) (n0 : Nat) (E_a1 : Exa Z h0 a1 "java/lang/String") (F_value_a1 : Fld Z h0 a1 "java/lang/String" "value" "[B" u1) (F_coder_a1 : Fld Z h0 a1 "java/lang/String" "coder" "B" u2) (g_a1 : n0 ≤ a1) :
    MetFree l (⟨"java/lang/String", "<init>", "([BB)V"⟩ : MethodName) (head1 (Jvm.Cond.code (⟨"java/lang/String", "<init>", "([BB)V"⟩ : MethodName) jdk_42_method_151_code 3 none :: ws) ({ frames := 1, cells := 0, slots := 0, locals := 12 } : Room)) (fun a U => a = #[(.ref a1), (.ref a2), (.int (0 : Int32))] ∧ Z.Warmed39 U.vm ∧ U.heap = h0) (fun _ _ _ _ _ => True) (fun _ U o U' => ∃ v L, o = .returned v ∧ QSB Z a1 a2 h0 n0 v U'.heap L ∧ FrameEnd U o U' L ({ frames := 1, cells := 0, slots := 0, locals := 12 } : Room).cells ({ frames := 1, cells := 0, slots := 0, locals := 12 } : Room).slots) := by
  refine MetFree.of_bodySF (plainFor_of_name pnST) hisR ?_
  intro p e s m args below meth c s₁ Bd hml0 hP hK
  obtain ⟨rfl, hZ, hh⟩ := hP
  have hx := Bd.exec
  have hby := Bd.bytes
  have hml : c.maxLocals = 3 := hml0
  have hown : s.vm.findClass "java/lang/String" = some m.cls := findClass_of_methodNamed Bd.named
  have hnm := (name_of_methodNamed Bd.named Bd.method).1
  have X0 : Stand p l e ({ frames := 1, cells := 0, slots := 0, locals := 12 } : Room) s m #[(.ref a1), (.ref a2), (.int (0 : Int32))] below meth c s₁ [] 0 0 := Stand.of_body Bd
  have e0 : s₁.heap = h0 := by rw [← hh, Bd.state]; rfl
  have N0 := Fr.nil n0
  have go0 : ∀ tg_, Steps p.tables e below (s₁.setTop (mkF m 0 #[.val (.ref a1), .val (.ref a2), .val (.int (0 : Int32))] [])) tg_ → Steps p.tables e below (s₁.setTop (entryFrame m #[(.ref a1), (.ref a2), (.int (0 : Int32))] 3)) tg_ := fun tg_ k => castTop (efSB m a1 a2 (0 : Int32)) k
  have KH0 : Keep h0 h0 [a1] := Keep.refl h0 [a1]
  obtain ⟨T101, X101, e101, st101⟩ := initO X0 hx hZ hown (hw _ (List.mem_of_getElem? (i := 30) rfl)) (hw _ (List.mem_of_getElem? (i := 7) rfl)) (hw _ (List.mem_of_getElem? (i := 8) rfl)) e0 (g := (mkF m 1 #[.val (.ref a1), .val (.ref a2), .val (.int (0 : Int32))] [(.ref a1)])) rfl (by rw [hml]; rfl) rfl (hb hby dSB_1) (by decide) (W := 0) (by show 2 * 0 + _ ≤ _; exact Nat.le_of_eq rfl) (by decide)
  obtain ⟨T102, h102, X102, e102, W102, st102⟩ := putF X101 hx hZ hown (host := "") (Or.inl (hw _ (List.mem_of_getElem? (i := 45) rfl))) Via.refl e101 F_value_a1 E_a1 (Or.inr ⟨(hw _ (List.mem_of_getElem? (i := 46) rfl)), rfl, hnm⟩) (hw _ (List.mem_of_getElem? (i := 21) rfl)) (ty := (.array .byte)) (by decide) rfl rfl (g := (mkF m 6 #[.val (.ref a1), .val (.ref a2), .val (.int (0 : Int32))] [(.ref a2), (.ref a1)])) rfl rfl (hb hby dSB_6)
  have Fw102 := F_value_a1.same W102
  have K102 : Keep h0 h102 [a1] := Keep.of_wr W102
  have KH103 : Keep h0 h102 [a1] := KH0.trans K102 (allS (Or.inl (List.mem_of_getElem? (i := 0) rfl)) all0)
  have N102 := Fr.snoc X102 N0 g_a1
  have F_coder_a1_105 := (F_coder_a1.other W102 (Or.inr (slot_ne (Or.inr (hw _ (List.mem_of_getElem? (i := 44) rfl))) (Or.inr (hw _ (List.mem_of_getElem? (i := 46) rfl))) (by decide) (t := .byte) (t' := (.array .byte)) (by decide) (by decide))))
  have E_a1_106 := (E_a1.keep K102)
  obtain ⟨T104, h104, X104, e104, W104, st104⟩ := putFN X102 hx hZ hown (hw _ (List.mem_of_getElem? (i := 43) rfl)) Via.refl e102 F_coder_a1_105 E_a1_106 (Or.inr ⟨(hw _ (List.mem_of_getElem? (i := 44) rfl)), rfl, hnm⟩) (hw _ (List.mem_of_getElem? (i := 21) rfl)) (ty := .byte) (v' := (.int (0 : Int32))) (by decide) rfl rfl (g := (mkF m 11 #[.val (.ref a1), .val (.ref a2), .val (.int (0 : Int32))] [(.int (0 : Int32)), (.ref a1)])) rfl rfl (hb hby dSB_11)
  have Fw104 := F_coder_a1_105.same W104
  have K104 : Keep h102 h104 [a1] := Keep.of_wr W104
  have KH107 : Keep h0 h104 [a1] := KH103.trans K104 (allS (Or.inl (List.mem_of_getElem? (i := 0) rfl)) all0)
  have N104 := Fr.snoc X104 N102 g_a1
  have F_value_a1_108 := (Fw102.other W104 (Or.inr (slot_ne (Or.inr (hw _ (List.mem_of_getElem? (i := 46) rfl))) (Or.inr (hw _ (List.mem_of_getElem? (i := 44) rfl))) (by decide) (t := (.array .byte)) (t' := .byte) (by decide) (by decide))))
  have E_a1_109 := (E_a1_106.keep K104)
  obtain ⟨fs, hr, hrun, hended, hW, hsame⟩ := X104.leave (v := none) (fun _ => rfl)
  refine ⟨_, _, go0 _ ?_, hrun, hended, _, _, rfl, ?_, ⟨_, rfl⟩, hW, hsame.mono (by decide) (by decide)⟩
  · show Steps p.tables e below (s₁.setTop (mkF m 0 #[.val (.ref a1), .val (.ref a2), .val (.int (0 : Int32))] [])) _
    refine XS.aloadN X0.here hx rfl (hb hby dSB_0) rfl rfl ?_
    show Steps p.tables e below (s₁.setTop (mkF m 1 #[.val (.ref a1), .val (.ref a2), .val (.int (0 : Int32))] [(.ref a1)])) _
    refine st101 _ ?_
    show Steps p.tables e below (T101.setTop (mkF m 4 #[.val (.ref a1), .val (.ref a2), .val (.int (0 : Int32))] [])) _
    refine XS.aloadN X101.here hx rfl (hb hby dSB_4) rfl rfl ?_
    show Steps p.tables e below (T101.setTop (mkF m 5 #[.val (.ref a1), .val (.ref a2), .val (.int (0 : Int32))] [(.ref a1)])) _
    refine XS.aloadN X101.here hx rfl (hb hby dSB_5) rfl rfl ?_
    show Steps p.tables e below (T101.setTop (mkF m 6 #[.val (.ref a1), .val (.ref a2), .val (.int (0 : Int32))] [(.ref a2), (.ref a1)])) _
    refine st102 _ ?_
    show Steps p.tables e below (T102.setTop (mkF m 9 #[.val (.ref a1), .val (.ref a2), .val (.int (0 : Int32))] [])) _
    refine XS.aloadN X102.here hx rfl (hb hby dSB_9) rfl rfl ?_
    show Steps p.tables e below (T102.setTop (mkF m 10 #[.val (.ref a1), .val (.ref a2), .val (.int (0 : Int32))] [(.ref a1)])) _
    refine XS.iloadN X102.here hx rfl (hb hby dSB_10) rfl ?_
    show Steps p.tables e below (T102.setTop (mkF m 11 #[.val (.ref a1), .val (.ref a2), .val (.int (0 : Int32))] [(.int (0 : Int32)), (.ref a1)])) _
    refine st104 _ ?_
    show Steps p.tables e below (T104.setTop (mkF m 14 #[.val (.ref a1), .val (.ref a2), .val (.int (0 : Int32))] [])) _
    exact X104.returnOut hx Bd.returns (hb hby dSB_14) hr
  · show QSB Z a1 a2 h0 n0 _ T104.heap _
    rw [e104]
    exact ⟨rfl, N104, KH107, E_a1_109, F_value_a1_108, Fw104⟩
theorem dVO_0 : decode jdk_42_method_139_code 0 = .ok (.getstatic 38, 3) := by decide +kernel
theorem dVO_3 : decode jdk_42_method_139_code 3 = .ok (.ifCond .eq 23, 3) := by decide +kernel
theorem dVO_6 : decode jdk_42_method_139_code 6 = .ok (.iload_n 0, 1) := by decide +kernel
theorem dVO_7 : decode jdk_42_method_139_code 7 = .ok (.invokestatic 1015, 3) := by decide +kernel
theorem dVO_10 : decode jdk_42_method_139_code 10 = .ok (.ifCond .eq 16, 3) := by decide +kernel
theorem dVO_13 : decode jdk_42_method_139_code 13 = .ok (.new 10, 3) := by decide +kernel
theorem dVO_16 : decode jdk_42_method_139_code 16 = .ok (.dup, 1) := by decide +kernel
theorem dVO_17 : decode jdk_42_method_139_code 17 = .ok (.iload_n 0, 1) := by decide +kernel
theorem dVO_18 : decode jdk_42_method_139_code 18 = .ok (.invokestatic 1018, 3) := by decide +kernel
theorem dVO_21 : decode jdk_42_method_139_code 21 = .ok (.iconst 0, 1) := by decide +kernel
theorem dVO_22 : decode jdk_42_method_139_code 22 = .ok (.invokespecial 209, 3) := by decide +kernel
theorem dVO_25 : decode jdk_42_method_139_code 25 = .ok (.areturn, 1) := by decide +kernel
theorem efVO (m : MethodId) (x0 : Int32) : entryFrame m #[(.int x0)] 1 = mkF m 0 #[.val (.int x0)] [] := by first | (simp [entryFrame, mkF, argsToLocals, Value.category]; done) | rfl
def QVO (Z : State) (p1 : Int32) (h0 : Heap) (n0 : Nat) (v : Option Value) (h : Heap) (L : List Loc) : Prop := ∃ (b t : Addr) (k : ClassId), v = some (.ref b) ∧ Fr n0 L ∧ Keep h0 h [] ∧ n0 ≤ b ∧ h0.size ≤ b ∧ n0 ≤ t ∧ h0.size ≤ t ∧ b ≠ t ∧ Exa Z h b "java/lang/String" ∧ Fld Z h b "java/lang/String" "value" "[B" (.ref t) ∧ Fld Z h b "java/lang/String" "coder" "B" (.int (0 : Int32)) ∧ Arv Z h t k .byte (1 : Int32) [(.int (p1.toInt8.toInt32))] (.int (0 : Int32))
set_option maxRecDepth 65536 in
set_option maxHeartbeats 40000000 in
theorem rmVO (l : Launch) (Z : State) (a0 : Array Value) (hw : ∀ d ∈ tables_1, d.before a0 Z = true) (ws : List Jvm.Cond) (p1 G1 : Int32) (h0 : Heap) (n0 : Nat) (Z0 : n0 ≤ h0.size) (S0 : Sta Z h0 "java/lang/String" "COMPACT_STRINGS" "Z" (.int G1)) (P5 : ¬ (G1 = (0 : Int32))) (hc : ¬ ((255 : Int32) < p1)) :
    MetFree l (⟨"java/lang/String", "valueOf", "(C)Ljava/lang/String;"⟩ : MethodName) (head1 (Jvm.Cond.code (⟨"java/lang/String", "valueOf", "(C)Ljava/lang/String;"⟩ : MethodName) jdk_42_method_139_code 1 (some (.object "java/lang/String")) :: ws) ({ frames := 3, cells := 2, slots := 5, locals := 40 } : Room)) (fun a U => a = #[(.int p1)] ∧ Z.Warmed39 U.vm ∧ U.heap = h0) (fun _ _ _ _ _ => True) (fun _ U o U' => ∃ v L, o = .returned v ∧ QVO Z p1 h0 n0 v U'.heap L ∧ FrameEnd U o U' L ({ frames := 3, cells := 2, slots := 5, locals := 40 } : Room).cells ({ frames := 3, cells := 2, slots := 5, locals := 40 } : Room).slots) := by
  refine MetFree.of_bodySF (plainFor_of_name pnST) hisR ?_
  intro p e s m args below meth c s₁ Bd hml0 hP hK
  obtain ⟨rfl, hZ, hh⟩ := hP
  have hx := Bd.exec
  have hby := Bd.bytes
  have hml : c.maxLocals = 1 := hml0
  have hown : s.vm.findClass "java/lang/String" = some m.cls := findClass_of_methodNamed Bd.named
  have hnm := (name_of_methodNamed Bd.named Bd.method).1
  have X0 : Stand p l e ({ frames := 3, cells := 2, slots := 5, locals := 40 } : Room) s m #[(.int p1)] below meth c s₁ [] 0 0 := Stand.of_body Bd
  have e0 : s₁.heap = h0 := by rw [← hh, Bd.state]; rfl
  have N0 := Fr.nil n0
  have go0 : ∀ tg_, Steps p.tables e below (s₁.setTop (mkF m 0 #[.val (.int p1)] [])) tg_ → Steps p.tables e below (s₁.setTop (entryFrame m #[(.int p1)] 1)) tg_ := fun tg_ k => castTop (efVO m p1) k
  have KH0 : Keep h0 h0 [] := Keep.refl h0 []
  obtain ⟨T101, X101, e101, st101⟩ := getS2 X0 hx hZ hown (host := "") (Or.inl (hw _ (List.mem_of_getElem? (i := 31) rfl))) Via.refl e0 S0 (g := (mkF m 0 #[.val (.int p1)] [])) rfl (hb hby dVO_0)
  obtain ⟨_, _, ⟨T102, L102, kk102, nn102⟩, -, X102, ⟨Lc102, hQ102, l102, y102, z102⟩, st102⟩ := Jvm.LawKit.callS X101 hx (y := (⟨"java/lang/StringLatin1", "canEncode", "(C)Z"⟩ : MethodName)) hown (mvT hZ (hw _ (List.mem_of_getElem? (i := 73) rfl))) (mvT hZ (hw _ (List.mem_of_getElem? (i := 74) rfl))) (mvT hZ (hw _ (List.mem_of_getElem? (i := 63) rfl))) (mvT hZ (hw _ (List.mem_of_getElem? (i := 75) rfl))) (by decide) (backOf (W := 0) (rmCE l Z a0 hw [] p1 h0 n0 hc) hZ (hw _ (List.mem_of_getElem? (i := 75) rfl)) (hw _ (List.mem_of_getElem? (i := 63) rfl)) (by decide) (by decide)) (g := (mkF m 7 #[.val (.int p1)] [(.int p1)])) rfl (by rw [hml]; rfl) (argsL := [(.int p1)]) (rest := []) (lenOf pd__C_Z rfl) rfl (by show 2 * 0 + _ ≤ _; exact Nat.le_of_eq rfl) (hb hby dVO_7) (fun _ _ => ⟨rfl, e101, Nat.le_of_ble_eq_true rfl, Nat.le_of_ble_eq_true rfl⟩)
  dsimp only [Pt.U, Pt.locs, Pt.cells, Pt.slots] at X102 l102 y102 z102 st102 hQ102
  subst l102 y102 z102
  obtain ⟨rfl, Nq102, e102⟩ := hQ102
  have N102 := Fr.app N0 Nq102
  obtain ⟨T103, h103, X103, e103, E103, A103, D103, -, st103⟩ := newO X102 hx hZ hown (hw _ (List.mem_of_getElem? (i := 60) rfl)) (hw _ (List.mem_of_getElem? (i := 21) rfl)) (hw _ (List.mem_of_getElem? (i := 22) rfl)) e102 (g := (mkF m 13 #[.val (.int p1)] [])) rfl (hb hby dVO_13) (by decide) (by decide)
  obtain ⟨b1, g103⟩ : ∃ z, z = h0.size := ⟨_, rfl⟩
  rw [← g103] at A103 D103 st103
  have sz_b1 : h0.size ≤ b1 := Nat.le_trans KH0.1 (Nat.le_of_eq g103.symm)
  have g_b1 : n0 ≤ b1 := Nat.le_trans Z0 (Nat.le_of_eq g103.symm)
  have F_coder_b1 : Fld Z h103 b1 "java/lang/String" "coder" "B" (.int (0 : Int32)) := D103 (Or.inr (hw _ (List.mem_of_getElem? (i := 44) rfl))) (ty := .byte) (by decide)
  have F_value_b1 : Fld Z h103 b1 "java/lang/String" "value" "[B" .null := D103 (Or.inr (hw _ (List.mem_of_getElem? (i := 46) rfl))) (ty := (.array .byte)) (by decide)
  have K103 : Keep h0 h103 [] := (Keep.refl _ []).ext E103
  have KH104 : Keep h0 h103 [] := KH0.trans K103 all0
  have lt_b1 : b1 < h103.size := A103.lt
  have Z_106 := (Nat.le_trans Z0 K103.1)
  obtain ⟨_, _, ⟨T107, L107, kk107, nn107⟩, -, X107, ⟨Lc107, hQ107, l107, y107, z107⟩, st107⟩ := Jvm.LawKit.callS X103 hx (y := (⟨"java/lang/StringLatin1", "toBytes", "(C)[B"⟩ : MethodName)) hown (mvT hZ (hw _ (List.mem_of_getElem? (i := 76) rfl))) (mvT hZ (hw _ (List.mem_of_getElem? (i := 77) rfl))) (mvT hZ (hw _ (List.mem_of_getElem? (i := 63) rfl))) (mvT hZ (hw _ (List.mem_of_getElem? (i := 78) rfl))) (by decide) (backOf (W := 2) (rmTB l Z a0 hw [] p1 h103 n0 Z_106) hZ (hw _ (List.mem_of_getElem? (i := 78) rfl)) (hw _ (List.mem_of_getElem? (i := 63) rfl)) (by decide) (by decide)) (g := (mkF m 18 #[.val (.int p1)] [(.int p1), (.ref b1), (.ref b1)])) rfl (by rw [hml]; rfl) (argsL := [(.int p1)]) (rest := [(.ref b1), (.ref b1)]) (lenOf pd__C__B rfl) rfl (by show 2 * 0 + _ ≤ _; exact Nat.le_of_eq rfl) (hb hby dVO_18) (fun _ _ => ⟨rfl, e103, Nat.le_of_ble_eq_true rfl, Nat.le_of_ble_eq_true rfl⟩)
  dsimp only [Pt.U, Pt.locs, Pt.cells, Pt.slots] at X107 l107 y107 z107 st107 hQ107
  subst l107 y107 z107
  obtain ⟨t107, kb107, rfl, Nq107, K107, g_t107, le107, V_t107⟩ := hQ107
  have N107 := Fr.app N102 Nq107
  have KH108 : Keep h0 T107.heap [] := KH104.trans K107 all0
  have ne_b1_t107 : b1 ≠ t107 := Nat.ne_of_lt (Nat.lt_of_lt_of_le lt_b1 le107)
  have sz_t107 : h0.size ≤ t107 := Nat.le_trans (Nat.le_trans sz_b1 (Nat.le_of_lt lt_b1)) le107
  have E_b1_109 := (A103.keep K107)
  have F_value_b1_110 := (F_value_b1.keep K107 nin0)
  have F_coder_b1_111 := (F_coder_b1.keep K107 nin0)
  obtain ⟨_, _, ⟨T112, L112, kk112, nn112⟩, -, X112, ⟨Lc112, hQ112, l112, y112, z112⟩, st112⟩ := X107.specialBack hx (y := (⟨"java/lang/String", "<init>", "([BB)V"⟩ : MethodName)) rfl hown (mvT hZ (hw _ (List.mem_of_getElem? (i := 79) rfl))) (mvT hZ (hw _ (List.mem_of_getElem? (i := 80) rfl))) (mvT hZ (hw _ (List.mem_of_getElem? (i := 81) rfl))) (by decide) (backOf (W := 1) (rmSB l Z a0 hw [] b1 t107 _ _ T107.heap n0 E_b1_109 F_value_b1_110 F_coder_b1_111 g_b1) hZ (hw _ (List.mem_of_getElem? (i := 81) rfl)) (hw _ (List.mem_of_getElem? (i := 22) rfl)) (by decide) (by decide)) (g := (mkF m 22 #[.val (.int p1)] [(.int (0 : Int32)), (.ref t107), (.ref b1), (.ref b1)])) rfl (by rw [hml]; rfl) (Steps.refl _) (a := b1) (argsL := [(.ref t107), (.int (0 : Int32))]) (rest := [(.ref b1)]) (lenOf pd___BB_V rfl) rfl (by show 2 * 0 + _ ≤ _; exact Nat.le_of_eq rfl) (hb hby dVO_22) (fun _ _ => ⟨rfl, rfl, Nat.le_of_ble_eq_true rfl, Nat.le_of_ble_eq_true rfl⟩)
  dsimp only [Pt.U, Pt.locs, Pt.cells, Pt.slots] at X112 l112 y112 z112 st112 hQ112
  subst l112 y112 z112
  obtain ⟨rfl, Nq112, K112, Eq112, Fv112, Fc112⟩ := hQ112
  have N112 := Fr.app N107 Nq112
  have KH113 : Keep h0 T112.heap [] := KH108.trans K112 (allS (Or.inr sz_b1) all0)
  have V_t107_114 := (V_t107.keep K112 (ninS (Ne.symm ne_b1_t107) nin0))
  obtain ⟨fs, hr, hrun, hended, hW, hsame⟩ := X112.leave (v := some (.ref b1)) (fun h => by rw [Bd.returns] at h; cases h)
  refine ⟨_, _, go0 _ ?_, hrun, hended, _, _, rfl, ?_, ⟨_, rfl⟩, hW, hsame.mono (by decide) (by decide)⟩
  · show Steps p.tables e below (s₁.setTop (mkF m 0 #[.val (.int p1)] [])) _
    refine st101 _ ?_
    show Steps p.tables e below (T101.setTop (mkF m 3 #[.val (.int p1)] [(.int G1)])) _
    refine XS.ifNo X101.here hx rfl (hb hby dVO_3) rfl ((if0 _ _).trans (feq (P5 : ¬ (G1 = (0 : Int32)))).1) ?_
    show Steps p.tables e below (T101.setTop (mkF m 6 #[.val (.int p1)] [])) _
    refine XS.iloadN X101.here hx rfl (hb hby dVO_6) rfl ?_
    show Steps p.tables e below (T101.setTop (mkF m 7 #[.val (.int p1)] [(.int p1)])) _
    refine st102 _ ?_
    show Steps p.tables e below (T102.setTop (mkF m 10 #[.val (.int p1)] [(.int (1 : Int32))])) _
    refine XS.ifNo X102.here hx rfl (hb hby dVO_10) rfl ((if0 _ _).trans (feq ((by decide) : ¬ ((1 : Int32) = (0 : Int32)))).1) ?_
    show Steps p.tables e below (T102.setTop (mkF m 13 #[.val (.int p1)] [])) _
    refine st103 _ ?_
    show Steps p.tables e below (T103.setTop (mkF m 16 #[.val (.int p1)] [(.ref b1)])) _
    refine XS.dup X103.here hx rfl (hb hby dVO_16) rfl rfl ?_
    show Steps p.tables e below (T103.setTop (mkF m 17 #[.val (.int p1)] [(.ref b1), (.ref b1)])) _
    refine XS.iloadN X103.here hx rfl (hb hby dVO_17) rfl ?_
    show Steps p.tables e below (T103.setTop (mkF m 18 #[.val (.int p1)] [(.int p1), (.ref b1), (.ref b1)])) _
    refine st107 _ ?_
    show Steps p.tables e below (T107.setTop (mkF m 21 #[.val (.int p1)] [(.ref t107), (.ref b1), (.ref b1)])) _
    refine XS.iconst X107.here hx rfl (hb hby dVO_21) ?_
    show Steps p.tables e below (T107.setTop (mkF m 22 #[.val (.int p1)] [(.int (0 : Int32)), (.ref t107), (.ref b1), (.ref b1)])) _
    refine st112.trans ?_
    show Steps p.tables e below (T112.setTop (mkF m 25 #[.val (.int p1)] [(.ref b1)])) _
    jvm_step X112.here [X112.here.top, hx, (hb hby dVO_25), X112.method', Bd.returns, Value.isRef, FieldType.isReference]
    first | (intro acts; rw [hr _ acts rfl rfl rfl]) | rw [hr _ _ rfl rfl rfl]
    exact Steps.refl _
  · show QVO Z p1 h0 n0 _ T112.heap _
    exact ⟨_, _, _, rfl, N112, KH113, g_b1, sz_b1, g_t107, sz_t107, ne_b1_t107, Eq112, Fv112, Fc112, V_t107_114⟩
def QE (Z : State) (a1 : Addr) (h0 : Heap) (n0 : Nat) (v : Option Value) (h : Heap) (L : List Loc) : Prop := v = none ∧ Fr n0 L ∧ Keep h0 h [a1] ∧ Exa Z h a1 "java/lang/String" ∧ Fld Z h a1 "java/lang/String" "coder" "B" (.int (0 : Int32)) ∧ ∃ (t : Addr) (kb : ClassId), t ≠ a1 ∧ Fld Z h a1 "java/lang/String" "value" "[B" (.ref t) ∧ Arv Z h t kb .byte (0 : Int32) [] (.int (0 : Int32))
theorem dEV_0 : decode jdk_42_method_149_code 0 = .ok (.aload_n 0, 1) := by decide +kernel
theorem dEV_1 : decode jdk_42_method_149_code 1 = .ok (.invokespecial 1, 3) := by decide +kernel
theorem dEV_4 : decode jdk_42_method_149_code 4 = .ok (.iload_n 3, 1) := by decide +kernel
theorem dEV_5 : decode jdk_42_method_149_code 5 = .ok (.ifCond .ne 22, 3) := by decide +kernel
theorem dEV_8 : decode jdk_42_method_149_code 8 = .ok (.aload_n 0, 1) := by decide +kernel
theorem dEV_9 : decode jdk_42_method_149_code 9 = .ok (.ldc 7, 2) := by decide +kernel
theorem dEV_11 : decode jdk_42_method_149_code 11 = .ok (.getfield 9, 3) := by decide +kernel
theorem dEV_14 : decode jdk_42_method_149_code 14 = .ok (.putfield 9, 3) := by decide +kernel
theorem dEV_17 : decode jdk_42_method_149_code 17 = .ok (.aload_n 0, 1) := by decide +kernel
theorem dEV_18 : decode jdk_42_method_149_code 18 = .ok (.ldc 7, 2) := by decide +kernel
theorem dEV_20 : decode jdk_42_method_149_code 20 = .ok (.getfield 15, 3) := by decide +kernel
theorem dEV_23 : decode jdk_42_method_149_code 23 = .ok (.putfield 15, 3) := by decide +kernel
theorem dEV_26 : decode jdk_42_method_149_code 26 = .ok (.return_, 1) := by decide +kernel
theorem efEV (m : MethodId) (x0 : Addr) (x1 : Addr) (x2 : Int32) (x3 : Int32) : entryFrame m #[(.ref x0), (.ref x1), (.int x2), (.int x3), .null] 6 = mkF m 0 #[.val (.ref x0), .val (.ref x1), .val (.int x2), .val (.int x3), .val .null, .unset] [] := by first | (simp [entryFrame, mkF, argsToLocals, Value.category]; done) | rfl
set_option maxRecDepth 65536 in
set_option maxHeartbeats 40000000 in
theorem rmEV (l : Launch) (Z : State) (a0 : Array Value) (hw : ∀ d ∈ tables_1, d.before a0 Z = true) (ws : List Jvm.Cond) (a1 ca : Addr) (u2 : Value) (h0 : Heap) (n0 : Nat) (g_a1 : n0 ≤ a1) (E_a1 : Exa Z h0 a1 "java/lang/String") (F_value_a1 : Fld Z h0 a1 "java/lang/String" "value" "[B" .null) (F_coder_a1 : Fld Z h0 a1 "java/lang/String" "coder" "B" u2) :
    MetFree l (⟨"java/lang/String", "<init>", "([CIILjava/lang/Void;)V"⟩ : MethodName) (head1 (Jvm.Cond.code (⟨"java/lang/String", "<init>", "([CIILjava/lang/Void;)V"⟩ : MethodName) jdk_42_method_149_code 6 none :: ws) ({ frames := 1, cells := 4, slots := 8, locals := 12 } : Room)) (fun a U => a = #[(.ref a1), (.ref ca), (.int (0 : Int32)), (.int (0 : Int32)), .null] ∧ Z.Warmed39 U.vm ∧ U.heap = h0 ∧ CHv Z own_EL U.vm h0) (fun _ _ _ _ _ => True) (fun _ U o U' => ∃ v L, o = .returned v ∧ QE Z a1 h0 n0 v U'.heap L ∧ CHr Z own_EL U.vm U.heap U'.vm U'.heap ∧ ReturnedEndW U o U' L ({ frames := 1, cells := 4, slots := 8, locals := 12 } : Room).cells ({ frames := 1, cells := 4, slots := 8, locals := 12 } : Room).slots) := by
  refine MetFree.of_bodySF (plainFor_of_name pnST) hisR ?_
  intro p e s m args below meth c s₁ Bd hml0 hP hK
  obtain ⟨rfl, hZ, hh, HC⟩ := hP
  have hx := Bd.exec
  have hby := Bd.bytes
  have hml : c.maxLocals = 6 := hml0
  have hown : s.vm.findClass "java/lang/String" = some m.cls := findClass_of_methodNamed Bd.named
  have hnm := (name_of_methodNamed Bd.named Bd.method).1
  have X0 : Stand p l e ({ frames := 1, cells := 4, slots := 8, locals := 12 } : Room) (s.setVm s.vm) m #[(.ref a1), (.ref ca), (.int (0 : Int32)), (.int (0 : Int32)), .null] below meth c s₁ [] 0 0 := Stand.of_body Bd
  have e0 : s₁.heap = h0 := by rw [← hh, Bd.state]; rfl
  have N0 := Fr.nil n0
  have go0 : ∀ tg_, Steps p.tables e below (s₁.setTop (mkF m 0 #[.val (.ref a1), .val (.ref ca), .val (.int (0 : Int32)), .val (.int (0 : Int32)), .val .null, .unset] [])) tg_ → Steps p.tables e below (s₁.setTop (entryFrame m #[(.ref a1), (.ref ca), (.int (0 : Int32)), (.int (0 : Int32)), .null] 6)) tg_ := fun tg_ k => castTop (efEV m a1 ca (0 : Int32) (0 : Int32)) k
  have hEL : EW Z a0 own_EL := own_hEL hw
  have hsA : ∀ a ∈ Bundle.stringAtoms, a.before a0 Z = true := own_hsA hw
  have R0 : CHr Z own_EL s.vm h0 s.vm h0 := CHr.refl HC
  have hS0 : s.Since s.vm s.heap.size := (State.WarmedH.refl s).since _
  have hk0 : s.heap.size ≤ h0.size := Nat.le_of_eq (by rw [hh])
  have KH0 : Keep h0 h0 [a1] := Keep.refl h0 [a1]
  have lt_a1 : a1 < h0.size := E_a1.lt
  have sf0 : Safe Z own_EL s.vm h0 a1 := own_safe_null hZ.alike E_a1 F_value_a1 (hw _ (List.mem_of_getElem? (i := 21) rfl))
  obtain ⟨T101, X101, e101, st101⟩ := initO X0 hx hZ hown (hw _ (List.mem_of_getElem? (i := 30) rfl)) (hw _ (List.mem_of_getElem? (i := 7) rfl)) (hw _ (List.mem_of_getElem? (i := 8) rfl)) e0 (g := (mkF m 1 #[.val (.ref a1), .val (.ref ca), .val (.int (0 : Int32)), .val (.int (0 : Int32)), .val .null, .unset] [(.ref a1)])) rfl (by rw [hml]; rfl) rfl (hb hby dEV_1) (by decide) (W := 0) (by show 2 * 0 + _ ≤ _; exact Nat.le_of_eq rfl) (by decide)
  have go103 : ∀ tg_, Steps p.tables e below (T101.setTop (mkF m 9 #[.val (.ref a1), .val (.ref ca), .val (.int (0 : Int32)), .val (.int (0 : Int32)), .val .null, .unset] [(.ref a1)])) tg_ → Steps p.tables e below (s₁.setTop (entryFrame m #[(.ref a1), (.ref ca), (.int (0 : Int32)), (.int (0 : Int32)), .null] 6)) tg_ := fun tg_ k => go0 tg_ (by
      show Steps p.tables e below (s₁.setTop (mkF m 0 #[.val (.ref a1), .val (.ref ca), .val (.int (0 : Int32)), .val (.int (0 : Int32)), .val .null, .unset] [])) _
      refine XS.aloadN X0.here hx rfl (hb hby dEV_0) rfl rfl ?_
      show Steps p.tables e below (s₁.setTop (mkF m 1 #[.val (.ref a1), .val (.ref ca), .val (.int (0 : Int32)), .val (.int (0 : Int32)), .val .null, .unset] [(.ref a1)])) _
      refine st101 _ ?_
      show Steps p.tables e below (T101.setTop (mkF m 4 #[.val (.ref a1), .val (.ref ca), .val (.int (0 : Int32)), .val (.int (0 : Int32)), .val .null, .unset] [])) _
      refine XS.iloadN X101.here hx rfl (hb hby dEV_4) rfl ?_
      show Steps p.tables e below (T101.setTop (mkF m 5 #[.val (.ref a1), .val (.ref ca), .val (.int (0 : Int32)), .val (.int (0 : Int32)), .val .null, .unset] [(.int (0 : Int32))])) _
      refine XS.ifNo X101.here hx rfl (hb hby dEV_5) rfl ((if0 _ _).trans (teq (rfl : (0 : Int32) = (0 : Int32))).2) ?_
      show Steps p.tables e below (T101.setTop (mkF m 8 #[.val (.ref a1), .val (.ref ca), .val (.int (0 : Int32)), .val (.int (0 : Int32)), .val .null, .unset] [])) _
      refine XS.aloadN X101.here hx rfl (hb hby dEV_8) rfl rfl ?_
      exact k)
  obtain ⟨s1, T102, h102, kq102, t_s1, kb_s1, X102, e102, E102, hS102, hk102, hZ, hown, E_s1, F_coder_s1, F_value_s1, V_t_s1, lt_s1, lt_t_s1, C102, Li102, sn102, st102⟩ := ldcCH X101 hx hZ hown (hw _ (List.mem_of_getElem? (i := 86) rfl)) hsA e101 hS0 hk0 hEL (by decide) R0.1 (text := "") (vs := ((own_L5.map (fun c => c.toInt8.toInt32)).map Value.int)) (z := (0 : Int32)) own_txt_5 (by decide) rfl (g := (mkF m 9 #[.val (.ref a1), .val (.ref ca), .val (.int (0 : Int32)), .val (.int (0 : Int32)), .val .null, .unset] [(.ref a1)])) rfl (hb hby dEV_9) (n := 0) (by decide) (by decide) (by decide) (by decide)
  have K102 : Keep h0 h102 [] := (Keep.refl _ []).ext E102
  have sf104_a1 := CHr.safe C102 lt_a1 sf0
  have R104 := R0.trans C102
  have KH105 : Keep h0 h102 [a1] := KH0.trans K102 all0
  obtain ⟨ne_a1_s1, ne_a1_t_s1⟩ := sn102 a1 sf104_a1
  obtain ⟨T106, X106, e106, st106⟩ := getF X102 hx hZ hown (host := "") (Or.inl (hw _ (List.mem_of_getElem? (i := 45) rfl))) Via.refl e102 F_value_s1 (g := (mkF m 11 #[.val (.ref a1), .val (.ref ca), .val (.int (0 : Int32)), .val (.int (0 : Int32)), .val .null, .unset] [(.ref s1), (.ref a1)])) rfl rfl (hb hby dEV_11)
  have F_value_a1_108 := (F_value_a1.keep K102 nin0)
  have E_a1_109 := (E_a1.keep K102)
  obtain ⟨T107, h107, X107, e107, W107, st107⟩ := putF X106 hx hZ hown (host := "") (Or.inl (hw _ (List.mem_of_getElem? (i := 45) rfl))) Via.refl e106 F_value_a1_108 E_a1_109 (Or.inr ⟨(hw _ (List.mem_of_getElem? (i := 46) rfl)), rfl, hnm⟩) (hw _ (List.mem_of_getElem? (i := 21) rfl)) (ty := (.array .byte)) (by decide) rfl rfl (g := (mkF m 14 #[.val (.ref a1), .val (.ref ca), .val (.int (0 : Int32)), .val (.int (0 : Int32)), .val .null, .unset] [(.ref t_s1), (.ref a1)])) rfl rfl (hb hby dEV_14)
  have Fw107 := F_value_a1_108.same W107
  have K107 : Keep h102 h107 [a1] := Keep.of_wr W107
  have hs110 : ∀ sx_ ∈ ([a1] : List Addr), Safe Z own_EL T102.vm h102 sx_ := (allS sf104_a1 all0)
  have sf110_a1 := Safe.keep K107 hs110 R104.1 sf104_a1
  have R110 := R104.trans (CHr.keep K107 hs110 R104.1)
  have KH111 : Keep h0 h107 [a1] := KH105.trans K107 (allS (Or.inl (List.mem_of_getElem? (i := 0) rfl)) all0)
  have N107 := Fr.snoc X107 N0 g_a1
  have go113 : ∀ tg_, Steps p.tables e below (T107.setTop (mkF m 18 #[.val (.ref a1), .val (.ref ca), .val (.int (0 : Int32)), .val (.int (0 : Int32)), .val .null, .unset] [(.ref a1)])) tg_ → Steps p.tables e below (s₁.setTop (entryFrame m #[(.ref a1), (.ref ca), (.int (0 : Int32)), (.int (0 : Int32)), .null] 6)) tg_ := fun tg_ k => go103 tg_ (by
      show Steps p.tables e below (T101.setTop (mkF m 9 #[.val (.ref a1), .val (.ref ca), .val (.int (0 : Int32)), .val (.int (0 : Int32)), .val .null, .unset] [(.ref a1)])) _
      refine st102 _ ?_
      show Steps p.tables e below (T102.setTop (mkF m 11 #[.val (.ref a1), .val (.ref ca), .val (.int (0 : Int32)), .val (.int (0 : Int32)), .val .null, .unset] [(.ref s1), (.ref a1)])) _
      refine st106 _ ?_
      show Steps p.tables e below (T106.setTop (mkF m 14 #[.val (.ref a1), .val (.ref ca), .val (.int (0 : Int32)), .val (.int (0 : Int32)), .val .null, .unset] [(.ref t_s1), (.ref a1)])) _
      refine st107 _ ?_
      show Steps p.tables e below (T107.setTop (mkF m 17 #[.val (.ref a1), .val (.ref ca), .val (.int (0 : Int32)), .val (.int (0 : Int32)), .val .null, .unset] [])) _
      refine XS.aloadN X107.here hx rfl (hb hby dEV_17) rfl rfl ?_
      exact k)
  have HK_114 := (Nat.le_trans hk102 K107.1)
  have lt_a1_115 := (Nat.lt_of_lt_of_le (Nat.lt_of_lt_of_le lt_a1 K102.1) K107.1)
  obtain ⟨s2, T112, h112, kq112, t_s2, kb_s2, X112, e112, E112, hS112, hk112, hZ, hown, E_s2, F_coder_s2, F_value_s2, V_t_s2, lt_s2, lt_t_s2, C112, Li112, sn112, st112⟩ := ldcCH X107 hx hZ hown (hw _ (List.mem_of_getElem? (i := 86) rfl)) hsA e107 hS102 HK_114 hEL (by decide) R110.1 (text := "") (vs := ((own_L5.map (fun c => c.toInt8.toInt32)).map Value.int)) (z := (0 : Int32)) own_txt_5 (by decide) rfl (g := (mkF m 18 #[.val (.ref a1), .val (.ref ca), .val (.int (0 : Int32)), .val (.int (0 : Int32)), .val .null, .unset] [(.ref a1)])) rfl (hb hby dEV_18) (n := 0) (by decide) (by decide) (by decide) (by decide)
  have K112 : Keep h107 h112 [] := (Keep.refl _ []).ext E112
  have sf116_a1 := CHr.safe C112 lt_a1_115 sf110_a1
  have R116 := R110.trans C112
  have KH117 : Keep h0 h112 [a1] := KH111.trans K112 all0
  obtain ⟨ne_a1_s2, ne_a1_t_s2⟩ := sn112 a1 sf116_a1
  obtain ⟨T118, X118, e118, st118⟩ := getF X112 hx hZ hown (host := "") (Or.inl (hw _ (List.mem_of_getElem? (i := 43) rfl))) Via.refl e112 F_coder_s2 (g := (mkF m 20 #[.val (.ref a1), .val (.ref ca), .val (.int (0 : Int32)), .val (.int (0 : Int32)), .val .null, .unset] [(.ref s2), (.ref a1)])) rfl rfl (hb hby dEV_20)
  have F_coder_a1_120 := (((F_coder_a1.keep K102 nin0).other W107 (Or.inr (slot_ne (Or.inr (hw _ (List.mem_of_getElem? (i := 44) rfl))) (Or.inr (hw _ (List.mem_of_getElem? (i := 46) rfl))) (by decide) (t := .byte) (t' := (.array .byte)) (by decide) (by decide)))).keep K112 nin0)
  have E_a1_121 := ((E_a1_109.keep K107).keep K112)
  obtain ⟨T119, h119, X119, e119, W119, st119⟩ := putFN X118 hx hZ hown (hw _ (List.mem_of_getElem? (i := 43) rfl)) Via.refl e118 F_coder_a1_120 E_a1_121 (Or.inr ⟨(hw _ (List.mem_of_getElem? (i := 44) rfl)), rfl, hnm⟩) (hw _ (List.mem_of_getElem? (i := 21) rfl)) (ty := .byte) (v' := (.int (0 : Int32))) (by decide) rfl rfl (g := (mkF m 23 #[.val (.ref a1), .val (.ref ca), .val (.int (0 : Int32)), .val (.int (0 : Int32)), .val .null, .unset] [(.int (0 : Int32)), (.ref a1)])) rfl rfl (hb hby dEV_23)
  have Fw119 := F_coder_a1_120.same W119
  have K119 : Keep h112 h119 [a1] := Keep.of_wr W119
  have hs122 : ∀ sx_ ∈ ([a1] : List Addr), Safe Z own_EL T112.vm h112 sx_ := (allS sf116_a1 all0)
  have sf122_a1 := Safe.keep K119 hs122 R116.1 sf116_a1
  have R122 := R116.trans (CHr.keep K119 hs122 R116.1)
  have KH123 : Keep h0 h119 [a1] := KH117.trans K119 (allS (Or.inl (List.mem_of_getElem? (i := 0) rfl)) all0)
  have N119 := Fr.snoc X119 N107 g_a1
  have E_a1_124 := (E_a1_121.keep K119)
  have F_value_a1_125 := ((Fw107.keep K112 nin0).other W119 (Or.inr (slot_ne (Or.inr (hw _ (List.mem_of_getElem? (i := 46) rfl))) (Or.inr (hw _ (List.mem_of_getElem? (i := 44) rfl))) (by decide) (t := (.array .byte)) (t' := .byte) (by decide) (by decide))))
  have V_t_s1_126 := (((V_t_s1.keep K107 (ninS (Ne.symm ne_a1_t_s1) nin0)).keep K112 nin0).keep K119 (ninS (Ne.symm ne_a1_t_s1) nin0))
  have HK_127 := (Nat.le_trans hk112 K119.1)
  obtain ⟨fs, hr, hrun, hended, hRE⟩ := X119.leaveW hS112 (by rw [e119]; exact HK_127) (v := none) (fun _ => rfl)
  refine ⟨_, _, go113 _ ?_, hrun, hended, _, _, rfl, ?_, ?_, hRE.1, hRE.2.1, hRE.2.2.1, hRE.2.2.2.mono (by decide) (by decide)⟩
  · show Steps p.tables e below (T107.setTop (mkF m 18 #[.val (.ref a1), .val (.ref ca), .val (.int (0 : Int32)), .val (.int (0 : Int32)), .val .null, .unset] [(.ref a1)])) _
    refine st112 _ ?_
    show Steps p.tables e below (T112.setTop (mkF m 20 #[.val (.ref a1), .val (.ref ca), .val (.int (0 : Int32)), .val (.int (0 : Int32)), .val .null, .unset] [(.ref s2), (.ref a1)])) _
    refine st118 _ ?_
    show Steps p.tables e below (T118.setTop (mkF m 23 #[.val (.ref a1), .val (.ref ca), .val (.int (0 : Int32)), .val (.int (0 : Int32)), .val .null, .unset] [(.int (0 : Int32)), (.ref a1)])) _
    refine st119 _ ?_
    show Steps p.tables e below (T119.setTop (mkF m 26 #[.val (.ref a1), .val (.ref ca), .val (.int (0 : Int32)), .val (.int (0 : Int32)), .val .null, .unset] [])) _
    exact X119.returnOut hx Bd.returns (hb hby dEV_26) hr
  · show QE Z a1 h0 n0 _ T119.heap _
    rw [e119]
    exact ⟨rfl, N119, KH123, E_a1_124, Fw119, _, _, Ne.symm ne_a1_t_s1, F_value_a1_125, V_t_s1_126⟩
  · show CHr Z own_EL s.vm s.heap T119.vm T119.heap
    rw [hh, e119]
    exact R122.trans (CHv.at X119 hZ hEL R122.1)
theorem dEC_0 : decode jdk_42_method_3_code 0 = .ok (.aload_n 0, 1) := by decide +kernel
theorem dEC_1 : decode jdk_42_method_3_code 1 = .ok (.aload_n 1, 1) := by decide +kernel
theorem dEC_2 : decode jdk_42_method_3_code 2 = .ok (.iconst 0, 1) := by decide +kernel
theorem dEC_3 : decode jdk_42_method_3_code 3 = .ok (.aload_n 1, 1) := by decide +kernel
theorem dEC_4 : decode jdk_42_method_3_code 4 = .ok (.arraylength, 1) := by decide +kernel
theorem dEC_5 : decode jdk_42_method_3_code 5 = .ok (.aconst_null, 1) := by decide +kernel
theorem dEC_6 : decode jdk_42_method_3_code 6 = .ok (.invokespecial 27, 3) := by decide +kernel
theorem dEC_9 : decode jdk_42_method_3_code 9 = .ok (.return_, 1) := by decide +kernel
theorem efEC (m : MethodId) (x0 : Addr) (x1 : Addr) : entryFrame m #[(.ref x0), (.ref x1)] 2 = mkF m 0 #[.val (.ref x0), .val (.ref x1)] [] := by first | (simp [entryFrame, mkF, argsToLocals, Value.category]; done) | rfl
set_option maxRecDepth 65536 in
set_option maxHeartbeats 40000000 in
theorem rmEC (l : Launch) (Z : State) (a0 : Array Value) (hw : ∀ d ∈ tables_1, d.before a0 Z = true) (ws : List Jvm.Cond) (a1 ca : Addr) (kc : ClassId) (u2 : Value) (h0 : Heap) (n0 : Nat) (g_a1 : n0 ≤ a1) (E_a1 : Exa Z h0 a1 "java/lang/String") (F_value_a1 : Fld Z h0 a1 "java/lang/String" "value" "[B" .null) (F_coder_a1 : Fld Z h0 a1 "java/lang/String" "coder" "B" u2) (VC : Arv Z h0 ca kc .char (0 : Int32) [] (.int (0 : Int32))) :
    MetFree l (⟨"java/lang/String", "<init>", "([C)V"⟩ : MethodName) (head1 (Jvm.Cond.code (⟨"java/lang/String", "<init>", "([C)V"⟩ : MethodName) jdk_42_method_3_code 2 none :: ws) ({ frames := 2, cells := 4, slots := 8, locals := 29 } : Room)) (fun a U => a = #[(.ref a1), (.ref ca)] ∧ Z.Warmed39 U.vm ∧ U.heap = h0 ∧ CHv Z own_EL U.vm h0) (fun _ _ _ _ _ => True) (fun _ U o U' => ∃ v L, o = .returned v ∧ QE Z a1 h0 n0 v U'.heap L ∧ CHr Z own_EL U.vm U.heap U'.vm U'.heap ∧ ReturnedEndW U o U' L ({ frames := 2, cells := 4, slots := 8, locals := 29 } : Room).cells ({ frames := 2, cells := 4, slots := 8, locals := 29 } : Room).slots) := by
  refine MetFree.of_bodySF (plainFor_of_name pnST) hisR ?_
  intro p e s m args below meth c s₁ Bd hml0 hP hK
  obtain ⟨rfl, hZ, hh, HC⟩ := hP
  have hx := Bd.exec
  have hby := Bd.bytes
  have hml : c.maxLocals = 2 := hml0
  have hown : s.vm.findClass "java/lang/String" = some m.cls := findClass_of_methodNamed Bd.named
  have hnm := (name_of_methodNamed Bd.named Bd.method).1
  have X0 : Stand p l e ({ frames := 2, cells := 4, slots := 8, locals := 29 } : Room) (s.setVm s.vm) m #[(.ref a1), (.ref ca)] below meth c s₁ [] 0 0 := Stand.of_body Bd
  have e0 : s₁.heap = h0 := by rw [← hh, Bd.state]; rfl
  have N0 := Fr.nil n0
  have go0 : ∀ tg_, Steps p.tables e below (s₁.setTop (mkF m 0 #[.val (.ref a1), .val (.ref ca)] [])) tg_ → Steps p.tables e below (s₁.setTop (entryFrame m #[(.ref a1), (.ref ca)] 2)) tg_ := fun tg_ k => castTop (efEC m a1 ca) k
  have hEL : EW Z a0 own_EL := own_hEL hw
  have hsA : ∀ a ∈ Bundle.stringAtoms, a.before a0 Z = true := own_hsA hw
  have R0 : CHr Z own_EL s.vm h0 s.vm h0 := CHr.refl HC
  have hS0 : s.Since s.vm s.heap.size := (State.WarmedH.refl s).since _
  have hk0 : s.heap.size ≤ h0.size := Nat.le_of_eq (by rw [hh])
  obtain ⟨cl101, Ar101, q101, S101, M101, Hh101, G101⟩ := id VC
  have go103 : ∀ tg_, Steps p.tables e below (s₁.setTop (mkF m 6 #[.val (.ref a1), .val (.ref ca)] [.null, (.int (0 : Int32)), (.int (0 : Int32)), (.ref ca), (.ref a1)])) tg_ → Steps p.tables e below (s₁.setTop (entryFrame m #[(.ref a1), (.ref ca)] 2)) tg_ := fun tg_ k => go0 tg_ (by
      show Steps p.tables e below (s₁.setTop (mkF m 0 #[.val (.ref a1), .val (.ref ca)] [])) _
      refine XS.aloadN X0.here hx rfl (hb hby dEC_0) rfl rfl ?_
      show Steps p.tables e below (s₁.setTop (mkF m 1 #[.val (.ref a1), .val (.ref ca)] [(.ref a1)])) _
      refine XS.aloadN X0.here hx rfl (hb hby dEC_1) rfl rfl ?_
      show Steps p.tables e below (s₁.setTop (mkF m 2 #[.val (.ref a1), .val (.ref ca)] [(.ref ca), (.ref a1)])) _
      refine XS.iconst X0.here hx rfl (hb hby dEC_2) ?_
      show Steps p.tables e below (s₁.setTop (mkF m 3 #[.val (.ref a1), .val (.ref ca)] [(.int (0 : Int32)), (.ref ca), (.ref a1)])) _
      refine XS.aloadN X0.here hx rfl (hb hby dEC_3) rfl rfl ?_
      show Steps p.tables e below (s₁.setTop (mkF m 4 #[.val (.ref a1), .val (.ref ca)] [(.ref ca), (.int (0 : Int32)), (.ref ca), (.ref a1)])) _
      refine X0.arraylength hx (by rw [e0]; exact Ar101.1) (State.isArrayOf_alike hZ.alike Ar101.2.1) (g := (mkF m 4 #[.val (.ref a1), .val (.ref ca)] [(.ref ca), (.int (0 : Int32)), (.ref ca), (.ref a1)])) rfl rfl (hb hby dEC_4) _ ?_
      rw [len_of S101 M101]
      show Steps p.tables e below (s₁.setTop (mkF m 5 #[.val (.ref a1), .val (.ref ca)] [(.int (0 : Int32)), (.int (0 : Int32)), (.ref ca), (.ref a1)])) _
      refine XS.aconstNull X0.here hx rfl (hb hby dEC_5) ?_
      exact k)
  obtain ⟨_, _, ⟨T102, L102, kk102, nn102⟩, -, Y102, hT102, gr102, ⟨Lc102, hQ102, l102, y102, z102, C102⟩, st102⟩ := X0.specialBackS hx (y := (⟨"java/lang/String", "<init>", "([CIILjava/lang/Void;)V"⟩ : MethodName)) rfl hown (mvT hZ (hw _ (List.mem_of_getElem? (i := 26) rfl))) (mvT hZ (hw _ (List.mem_of_getElem? (i := 27) rfl))) (mvT hZ (hw _ (List.mem_of_getElem? (i := 29) rfl))) (by decide) (backOfSH (W := 0) (rmEV l Z a0 hw [] a1 ca u2 h0 n0 g_a1 E_a1 F_value_a1 F_coder_a1) hZ (hw _ (List.mem_of_getElem? (i := 29) rfl)) (hw _ (List.mem_of_getElem? (i := 22) rfl)) (by decide) (by decide) hEL R0.1) (g := (mkF m 6 #[.val (.ref a1), .val (.ref ca)] [.null, (.int (0 : Int32)), (.int (0 : Int32)), (.ref ca), (.ref a1)])) rfl (by rw [hml]; rfl) (Steps.refl _) (a := a1) (argsL := [(.ref ca), (.int (0 : Int32)), (.int (0 : Int32)), .null]) (rest := []) (lenOf pd___CIILjava_lang_Void__V rfl) rfl (by show 2 * 0 + _ ≤ _; exact Nat.le_of_eq rfl) (hb hby dEC_6) (fun _ _ => ⟨rfl, e0, Nat.le_of_ble_eq_true rfl, Nat.le_of_ble_eq_true rfl⟩)
  dsimp only [Pt.U, Pt.locs, Pt.cells, Pt.slots] at Y102 hT102 gr102 l102 y102 z102 C102 st102 hQ102
  subst l102 y102 z102
  obtain ⟨X102, hS102, hZ, hown⟩ := rebS hS0 (by rw [e0]; exact hk0) Y102 hT102 gr102 hZ hown
  have hk102 := Nat.le_refl T102.heap.size
  obtain ⟨rfl, Nq102, K102, rQ102⟩ := hQ102
  have N102 := Fr.app N0 Nq102
  have R104 := R0.trans C102
  obtain ⟨fs, hr, hrun, hended, hRE⟩ := X102.leaveW hS102 hk102 (v := none) (fun _ => rfl)
  refine ⟨_, _, go103 _ ?_, hrun, hended, _, _, rfl, ?_, ?_, hRE.1, hRE.2.1, hRE.2.2.1, hRE.2.2.2.mono (by decide) (by decide)⟩
  · show Steps p.tables e below (s₁.setTop (mkF m 6 #[.val (.ref a1), .val (.ref ca)] [.null, (.int (0 : Int32)), (.int (0 : Int32)), (.ref ca), (.ref a1)])) _
    refine st102.trans ?_
    show Steps p.tables e below (T102.setTop (mkF m 9 #[.val (.ref a1), .val (.ref ca)] [])) _
    exact X102.returnOut hx Bd.returns (hb hby dEC_9) hr
  · show QE Z a1 h0 n0 _ T102.heap _
    exact ⟨rfl, N102, K102, rQ102⟩
  · show CHr Z own_EL s.vm s.heap T102.vm T102.heap
    rw [hh]
    exact R104.trans (CHv.at X102 hZ hEL R104.1)
theorem dM_0 : decode prog_144_method_1_code 0 = .ok (.aload_n 0, 1) := by decide +kernel
theorem dM_1 : decode prog_144_method_1_code 1 = .ok (.invokespecial 1, 3) := by decide +kernel
theorem dM_4 : decode prog_144_method_1_code 4 = .ok (.aload_n 0, 1) := by decide +kernel
theorem dM_5 : decode prog_144_method_1_code 5 = .ok (.getstatic 7, 3) := by decide +kernel
theorem dM_8 : decode prog_144_method_1_code 8 = .ok (.putfield 13, 3) := by decide +kernel
theorem dM_11 : decode prog_144_method_1_code 11 = .ok (.return_, 1) := by decide +kernel
theorem pnM : plainName "com/example/tramway/tramway/poa/TramwayPoaManager" = true := by first | (simp [plainName, overriddenIn]; done) | decide +kernel
theorem efM (m : MethodId) (x0 : Addr) : entryFrame m #[(.ref x0)] 1 = mkF m 0 #[.val (.ref x0)] [] := by first | (simp [entryFrame, mkF, argsToLocals, Value.category]; done) | rfl
def QM (Z : State) (a1 : Addr) (h0 : Heap) (n0 : Nat) (v : Option Value) (h : Heap) (L : List Loc) : Prop := v = none ∧ Fr n0 L ∧ Keep h0 h [a1] ∧ Exa Z h a1 "com/example/tramway/tramway/poa/TramwayPoaManager"
set_option maxRecDepth 65536 in
set_option maxHeartbeats 40000000 in
theorem rmM (l : Launch) (Z : State) (a0 : Array Value) (hw : ∀ d ∈ tables_1, d.before a0 Z = true) (ws : List Jvm.Cond) (a1 wh : Addr) (u1 : Value) (h0 : Heap) (n0 : Nat) (g_a1 : n0 ≤ a1) (E_a1 : Exa Z h0 a1 "com/example/tramway/tramway/poa/TramwayPoaManager") (F_m_eState_a1 : Fld Z h0 a1 "com/example/tramway/tramway/poa/TramwayPoaManager" "m_eState" "Lcom/example/tramway/tramway/poa/TramwayPoaManager$State;" u1) (S0 : Sta Z h0 "com/example/tramway/tramway/poa/TramwayPoaManager$State" "HOLDING" "Lcom/example/tramway/tramway/poa/TramwayPoaManager$State;" (.ref wh)) :
    MetFree l (⟨"com/example/tramway/tramway/poa/TramwayPoaManager", "<init>", "()V"⟩ : MethodName) (head1 (Jvm.Cond.code (⟨"com/example/tramway/tramway/poa/TramwayPoaManager", "<init>", "()V"⟩ : MethodName) prog_144_method_1_code 1 none :: ws) ({ frames := 1, cells := 0, slots := 0, locals := 12 } : Room)) (fun a U => a = #[(.ref a1)] ∧ Z.Warmed39 U.vm ∧ U.heap = h0) (fun _ _ _ _ _ => True) (fun _ U o U' => ∃ v L, o = .returned v ∧ QM Z a1 h0 n0 v U'.heap L ∧ FrameEnd U o U' L ({ frames := 1, cells := 0, slots := 0, locals := 12 } : Room).cells ({ frames := 1, cells := 0, slots := 0, locals := 12 } : Room).slots) := by
  refine MetFree.of_bodySF (plainFor_of_name pnM) hisR ?_
  intro p e s m args below meth c s₁ Bd hml0 hP hK
  obtain ⟨rfl, hZ, hh⟩ := hP
  have hx := Bd.exec
  have hby := Bd.bytes
  have hml : c.maxLocals = 1 := hml0
  have hown : s.vm.findClass "com/example/tramway/tramway/poa/TramwayPoaManager" = some m.cls := findClass_of_methodNamed Bd.named
  have hnm := (name_of_methodNamed Bd.named Bd.method).1
  have X0 : Stand p l e ({ frames := 1, cells := 0, slots := 0, locals := 12 } : Room) s m #[(.ref a1)] below meth c s₁ [] 0 0 := Stand.of_body Bd
  have e0 : s₁.heap = h0 := by rw [← hh, Bd.state]; rfl
  have N0 := Fr.nil n0
  have go0 : ∀ tg_, Steps p.tables e below (s₁.setTop (mkF m 0 #[.val (.ref a1)] [])) tg_ → Steps p.tables e below (s₁.setTop (entryFrame m #[(.ref a1)] 1)) tg_ := fun tg_ k => castTop (efM m a1) k
  have KH0 : Keep h0 h0 [a1] := Keep.refl h0 [a1]
  obtain ⟨T101, X101, e101, st101⟩ := initO X0 hx hZ hown (hw _ (List.mem_of_getElem? (i := 6) rfl)) (hw _ (List.mem_of_getElem? (i := 7) rfl)) (hw _ (List.mem_of_getElem? (i := 8) rfl)) e0 (g := (mkF m 1 #[.val (.ref a1)] [(.ref a1)])) rfl (by rw [hml]; rfl) rfl (hb hby dM_1) (by decide) (W := 0) (by show 2 * 0 + _ ≤ _; exact Nat.le_of_eq rfl) (by decide)
  obtain ⟨T102, X102, e102, st102⟩ := getS2 X101 hx hZ hown (host := "") (Or.inl (hw _ (List.mem_of_getElem? (i := 9) rfl))) Via.refl e101 S0 (g := (mkF m 5 #[.val (.ref a1)] [(.ref a1)])) rfl (hb hby dM_5)
  obtain ⟨T103, h103, X103, e103, W103, st103⟩ := putF X102 hx hZ hown (host := "") (Or.inl (hw _ (List.mem_of_getElem? (i := 12) rfl))) Via.refl e102 F_m_eState_a1 E_a1 (Or.inl (hw _ (List.mem_of_getElem? (i := 13) rfl))) (hw _ (List.mem_of_getElem? (i := 1) rfl)) (ty := (.object "com/example/tramway/tramway/poa/TramwayPoaManager$State")) (by decide) rfl rfl (g := (mkF m 8 #[.val (.ref a1)] [(.ref wh), (.ref a1)])) rfl rfl (hb hby dM_8)
  have Fw103 := F_m_eState_a1.same W103
  have K103 : Keep h0 h103 [a1] := Keep.of_wr W103
  have KH104 : Keep h0 h103 [a1] := KH0.trans K103 (allS (Or.inl (List.mem_of_getElem? (i := 0) rfl)) all0)
  have N103 := Fr.snoc X103 N0 g_a1
  have E_a1_105 := (E_a1.keep K103)
  obtain ⟨fs, hr, hrun, hended, hW, hsame⟩ := X103.leave (v := none) (fun _ => rfl)
  refine ⟨_, _, go0 _ ?_, hrun, hended, _, _, rfl, ?_, ⟨_, rfl⟩, hW, hsame.mono (by decide) (by decide)⟩
  · show Steps p.tables e below (s₁.setTop (mkF m 0 #[.val (.ref a1)] [])) _
    refine XS.aloadN X0.here hx rfl (hb hby dM_0) rfl rfl ?_
    show Steps p.tables e below (s₁.setTop (mkF m 1 #[.val (.ref a1)] [(.ref a1)])) _
    refine st101 _ ?_
    show Steps p.tables e below (T101.setTop (mkF m 4 #[.val (.ref a1)] [])) _
    refine XS.aloadN X101.here hx rfl (hb hby dM_4) rfl rfl ?_
    show Steps p.tables e below (T101.setTop (mkF m 5 #[.val (.ref a1)] [(.ref a1)])) _
    refine st102 _ ?_
    show Steps p.tables e below (T102.setTop (mkF m 8 #[.val (.ref a1)] [(.ref wh), (.ref a1)])) _
    refine st103 _ ?_
    show Steps p.tables e below (T103.setTop (mkF m 11 #[.val (.ref a1)] [])) _
    exact X103.returnOut hx Bd.returns (hb hby dM_11) hr
  · show QM Z a1 h0 n0 _ T103.heap _
    rw [e103]
    exact ⟨rfl, N103, KH104, E_a1_105⟩
theorem dEN_0 : decode jdk_42_method_66_code 0 = .ok (.aload_n 0, 1) := by decide +kernel
theorem dEN_1 : decode jdk_42_method_66_code 1 = .ok (.aload_n 1, 1) := by decide +kernel
theorem dEN_2 : decode jdk_42_method_66_code 2 = .ok (.if_acmp .ne 5, 3) := by decide +kernel
theorem dEN_7 : decode jdk_42_method_66_code 7 = .ok (.aload_n 1, 1) := by decide +kernel
theorem dEN_8 : decode jdk_42_method_66_code 8 = .ok (.instanceof 10, 3) := by decide +kernel
theorem dEN_11 : decode jdk_42_method_66_code 11 = .ok (.ifCond .eq 43, 3) := by decide +kernel
theorem dEN_54 : decode jdk_42_method_66_code 54 = .ok (.iconst 0, 1) := by decide +kernel
theorem dEN_55 : decode jdk_42_method_66_code 55 = .ok (.ireturn, 1) := by decide +kernel
theorem efEN (m : MethodId) (x0 : Addr) : entryFrame m #[(.ref x0), .null] 3 = mkF m 0 #[.val (.ref x0), .val .null, .unset] [] := by first | (simp [entryFrame, mkF, argsToLocals, Value.category]; done) | rfl
def QZ (h0 : Heap) (n0 : Nat) (v : Option Value) (h : Heap) (L : List Loc) : Prop := v = some (.int (0 : Int32)) ∧ Fr n0 L ∧ h = h0
set_option maxRecDepth 65536 in
set_option maxHeartbeats 40000000 in
theorem rmEN (l : Launch) (Z : State) (a0 : Array Value) (hw : ∀ d ∈ tables_1, d.before a0 Z = true) (ws : List Jvm.Cond) (x : Addr) (h0 : Heap) (n0 : Nat)  :
    MetFree l (⟨"java/lang/String", "equals", "(Ljava/lang/Object;)Z"⟩ : MethodName) (head1 (Jvm.Cond.code (⟨"java/lang/String", "equals", "(Ljava/lang/Object;)Z"⟩ : MethodName) jdk_42_method_66_code 3 (some .boolean) :: ws) ({ frames := 0, cells := 0, slots := 0, locals := 0 } : Room)) (fun a U => a = #[(.ref x), .null] ∧ Z.Warmed39 U.vm ∧ U.heap = h0) (fun _ _ _ _ _ => True) (fun _ U o U' => ∃ v L, o = .returned v ∧ QZ h0 n0 v U'.heap L ∧ FrameEnd U o U' L ({ frames := 0, cells := 0, slots := 0, locals := 0 } : Room).cells ({ frames := 0, cells := 0, slots := 0, locals := 0 } : Room).slots) := by
  refine MetFree.of_bodySF (plainFor_of_name pnST) hisR ?_
  intro p e s m args below meth c s₁ Bd hml0 hP hK
  obtain ⟨rfl, hZ, hh⟩ := hP
  have hx := Bd.exec
  have hby := Bd.bytes
  have hml : c.maxLocals = 3 := hml0
  have hown : s.vm.findClass "java/lang/String" = some m.cls := findClass_of_methodNamed Bd.named
  have hnm := (name_of_methodNamed Bd.named Bd.method).1
  have X0 : Stand p l e ({ frames := 0, cells := 0, slots := 0, locals := 0 } : Room) s m #[(.ref x), .null] below meth c s₁ [] 0 0 := Stand.of_body Bd
  have e0 : s₁.heap = h0 := by rw [← hh, Bd.state]; rfl
  have N0 := Fr.nil n0
  have go0 : ∀ tg_, Steps p.tables e below (s₁.setTop (mkF m 0 #[.val (.ref x), .val .null, .unset] [])) tg_ → Steps p.tables e below (s₁.setTop (entryFrame m #[(.ref x), .null] 3)) tg_ := fun tg_ k => castTop (efEN m x) k
  obtain ⟨fs, hr, hrun, hended, hW, hsame⟩ := X0.leave (v := some (.int (0 : Int32))) (fun h => by rw [Bd.returns] at h; cases h)
  refine ⟨_, _, go0 _ ?_, hrun, hended, _, _, rfl, ?_, ⟨_, rfl⟩, hW, hsame.mono (by decide) (by decide)⟩
  · show Steps p.tables e below (s₁.setTop (mkF m 0 #[.val (.ref x), .val .null, .unset] [])) _
    refine XS.aloadN X0.here hx rfl (hb hby dEN_0) rfl rfl ?_
    show Steps p.tables e below (s₁.setTop (mkF m 1 #[.val (.ref x), .val .null, .unset] [(.ref x)])) _
    refine XS.aloadN X0.here hx rfl (hb hby dEN_1) rfl rfl ?_
    show Steps p.tables e below (s₁.setTop (mkF m 2 #[.val (.ref x), .val .null, .unset] [.null, (.ref x)])) _
    refine Jvm.RoadKit.acmp (g := (mkF m 2 #[.val (.ref x), .val .null, .unset] [.null, (.ref x)])) X0 hx rfl rfl rfl (pc0 := 2) (pc' := 7) (same := false) rfl (hb hby dEN_2) rfl (decide_eq_false nofun) (by decide) (by decide) ?_
    show Steps p.tables e below (s₁.setTop (mkF m 7 #[.val (.ref x), .val .null, .unset] [])) _
    refine XS.aloadN X0.here hx rfl (hb hby dEN_7) rfl rfl ?_
    show Steps p.tables e below (s₁.setTop (mkF m 8 #[.val (.ref x), .val .null, .unset] [.null])) _
    refine X0.instanceofNull hx (g := (mkF m 8 #[.val (.ref x), .val .null, .unset] [.null])) rfl rfl (hb hby dEN_8) _ ?_
    show Steps p.tables e below (s₁.setTop (mkF m 11 #[.val (.ref x), .val .null, .unset] [(.int (0 : Int32))])) _
    refine XS.ifYes X0.here hx rfl (pc0 := 11) (pc' := 54) rfl (hb hby dEN_11) rfl ((if0 _ _).trans (teq (rfl : (0 : Int32) = (0 : Int32))).1) (by decide) (by decide) ?_
    show Steps p.tables e below (s₁.setTop (mkF m 54 #[.val (.ref x), .val .null, .unset] [])) _
    refine XS.iconst X0.here hx rfl (hb hby dEN_54) ?_
    show Steps p.tables e below (s₁.setTop (mkF m 55 #[.val (.ref x), .val .null, .unset] [(.int (0 : Int32))])) _
    exact retN X0 hx (t := .boolean) Bd.returns (by simp) (hb hby dEN_55) hr
  · show QZ h0 n0 _ s₁.heap _
    rw [e0]
    exact ⟨rfl, N0, rfl⟩
theorem dIA_0 : decode prog_144_method_5_code 0 = .ok (.ldc 66, 2) := by decide +kernel
theorem dIA_2 : decode prog_144_method_5_code 2 = .ok (.aload_n 1, 1) := by decide +kernel
theorem dIA_3 : decode prog_144_method_5_code 3 = .ok (.invokevirtual 68, 3) := by decide +kernel
theorem dIA_6 : decode prog_144_method_5_code 6 = .ok (.ifCond .ne 12, 3) := by decide +kernel
theorem dIA_9 : decode prog_144_method_5_code 9 = .ok (.ldc 76, 2) := by decide +kernel
theorem dIA_11 : decode prog_144_method_5_code 11 = .ok (.aload_n 1, 1) := by decide +kernel
theorem dIA_12 : decode prog_144_method_5_code 12 = .ok (.invokevirtual 68, 3) := by decide +kernel
theorem dIA_15 : decode prog_144_method_5_code 15 = .ok (.ifCond .eq 7, 3) := by decide +kernel
theorem dIA_18 : decode prog_144_method_5_code 18 = .ok (.iconst 1, 1) := by decide +kernel
theorem dIA_19 : decode prog_144_method_5_code 19 = .ok (.goto 4, 3) := by decide +kernel
theorem dIA_22 : decode prog_144_method_5_code 22 = .ok (.iconst 0, 1) := by decide +kernel
theorem dIA_23 : decode prog_144_method_5_code 23 = .ok (.ireturn, 1) := by decide +kernel
theorem efIA (m : MethodId) (x0 : Addr) (x1 : Addr) : entryFrame m #[(.ref x0), (.ref x1)] 2 = mkF m 0 #[.val (.ref x0), .val (.ref x1)] [] := by first | (simp [entryFrame, mkF, argsToLocals, Value.category]; done) | rfl
theorem efIAn (m : MethodId) (x0 : Addr) : entryFrame m #[(.ref x0), .null] 2 = mkF m 0 #[.val (.ref x0), .val .null] [] := by first | (simp [entryFrame, mkF, argsToLocals, Value.category]; done) | rfl
def QR (r : Int32) (h0 : Heap) (n0 : Nat) (v : Option Value) (h : Heap) (L : List Loc) : Prop := v = some (.int r) ∧ Fr n0 L ∧ Keep h0 h []
set_option maxRecDepth 65536 in
set_option maxHeartbeats 40000000 in
theorem rmIA_a (l : Launch) (Z : State) (a0 : Array Value) (hw : ∀ d ∈ tables_1, d.before a0 Z = true) (ws : List Jvm.Cond) (a1 x t : Addr) (kt : ClassId) (cs : List Int32) (G1 : Int32) (h0 : Heap) (n0 : Nat) (Ex : Exa Z h0 x "java/lang/String") (Vx : Fld Z h0 x "java/lang/String" "value" "[B" (.ref t)) (Cx : Fld Z h0 x "java/lang/String" "coder" "B" (.int (0 : Int32))) (Ax : Arv Z h0 t kt .byte (Int32.ofNat cs.length) ((cs.map (fun c => c.toInt8.toInt32)).map Value.int) (.int (0 : Int32))) (hpx : ∀ c ∈ cs, ¬ c < 0 ∧ ¬ (255 : Int32) < c) (hlx : cs.length ≤ 4000) (O2 : Sta Z Z.heap "java/lang/String" "COMPACT_STRINGS" "Z" (.int G1)) (P5 : ¬ (G1 = (0 : Int32))) (X00 : Old Z n0 h0) (q1 : own_L0 = cs) :
    MetFree l (⟨"com/example/tramway/tramway/poa/TramwayPoaManager", "_is_a", "(Ljava/lang/String;)Z"⟩ : MethodName) (head1 (Jvm.Cond.code (⟨"com/example/tramway/tramway/poa/TramwayPoaManager", "_is_a", "(Ljava/lang/String;)Z"⟩ : MethodName) prog_144_method_5_code 2 (some .boolean) :: ws) ({ frames := 2, cells := 4, slots := 284, locals := 28 } : Room)) (fun a U => a = #[(.ref a1), (.ref x)] ∧ Z.Warmed39 U.vm ∧ U.heap = h0 ∧ CHv Z own_EL U.vm h0) (fun _ _ _ _ _ => True) (fun _ U o U' => ∃ v L, o = .returned v ∧ QR 1 h0 n0 v U'.heap L ∧ CHr Z own_EL U.vm U.heap U'.vm U'.heap ∧ ReturnedEndW U o U' L ({ frames := 2, cells := 4, slots := 284, locals := 28 } : Room).cells ({ frames := 2, cells := 4, slots := 284, locals := 28 } : Room).slots) := by
  refine MetFree.of_bodySF (plainFor_of_name pnM) hisR ?_
  intro p e s m args below meth c s₁ Bd hml0 hP hK
  obtain ⟨rfl, hZ, hh, HC⟩ := hP
  have hx := Bd.exec
  have hby := Bd.bytes
  have hml : c.maxLocals = 2 := hml0
  have hown : s.vm.findClass "com/example/tramway/tramway/poa/TramwayPoaManager" = some m.cls := findClass_of_methodNamed Bd.named
  have hnm := (name_of_methodNamed Bd.named Bd.method).1
  have X0 : Stand p l e ({ frames := 2, cells := 4, slots := 284, locals := 28 } : Room) (s.setVm s.vm) m #[(.ref a1), (.ref x)] below meth c s₁ [] 0 0 := Stand.of_body Bd
  have e0 : s₁.heap = h0 := by rw [← hh, Bd.state]; rfl
  have N0 := Fr.nil n0
  have go0 : ∀ tg_, Steps p.tables e below (s₁.setTop (mkF m 0 #[.val (.ref a1), .val (.ref x)] [])) tg_ → Steps p.tables e below (s₁.setTop (entryFrame m #[(.ref a1), (.ref x)] 2)) tg_ := fun tg_ k => castTop (efIA m a1 x) k
  have hEL : EW Z a0 own_EL := own_hEL hw
  have hsA : ∀ a ∈ Bundle.stringAtoms, a.before a0 Z = true := own_hsA hw
  have R0 : CHr Z own_EL s.vm h0 s.vm h0 := CHr.refl HC
  have hS0 : s.Since s.vm s.heap.size := (State.WarmedH.refl s).since _
  have hk0 : s.heap.size ≤ h0.size := Nat.le_of_eq (by rw [hh])
  have KH0 : Keep h0 h0 [] := Keep.refl h0 []
  have heq : ∀ d ∈ StrChars.Road.wordsEq, d.before a0 Z = true := fun d hd => hw d ((by decide +kernel : ∀ d ∈ StrChars.Road.wordsEq, d ∈ tables_1) d hd)
  obtain ⟨s1, T101, h101, kq101, t_s1, kb_s1, X101, e101, E101, hS101, hk101, hZ, hown, E_s1, F_coder_s1, F_value_s1, V_t_s1, lt_s1, lt_t_s1, C101, Li101, sn101, st101⟩ := ldcCH X0 hx hZ hown (hw _ (List.mem_of_getElem? (i := 52) rfl)) hsA e0 hS0 hk0 hEL (by decide) R0.1 (text := "IDL:omg.org/PortableServer/POAManager:2.3") (vs := ((own_L0.map (fun c => c.toInt8.toInt32)).map Value.int)) (z := (41 : Int32)) own_txt_0 (by decide) rfl (g := (mkF m 0 #[.val (.ref a1), .val (.ref x)] [])) rfl (hb hby dIA_0) (n := 164) (by decide) (by decide) (by decide) (by decide)
  have K101 : Keep h0 h101 [] := (Keep.refl _ []).ext E101
  have R102 := R0.trans C101
  have KH103 : Keep h0 h101 [] := KH0.trans K101 all0
  have Ex_104 := (Ex.keep K101)
  have Vx_105 := (Vx.keep K101 nin0)
  have Cx_106 := (Cx.keep K101 nin0)
  have Ax_107 := (Ax.keep K101 nin0)
  have O_108 := (X00.keep K101 all0)
  obtain ⟨cq109, kq109, q109a, q109b, q109c⟩ := isOf hZ e101 E_s1
  obtain ⟨_, _, ⟨T109, L109, kk109, nn109⟩, -, X109, ⟨Lc109, hQ109, l109, y109, z109⟩, st109⟩ := X101.virtualBack hx (y := (⟨"java/lang/String", "equals", "(Ljava/lang/Object;)Z"⟩ : MethodName)) (z := (⟨"java/lang/String", "equals", "(Ljava/lang/Object;)Z"⟩ : MethodName)) hown (mvT hZ (hw _ (List.mem_of_getElem? (i := 55) rfl))) (mvT hZ (hw _ (List.mem_of_getElem? (i := 56) rfl))) (notFace_of_selects (args := #[]) (mvT hZ (hw _ (List.mem_of_getElem? (i := 58) rfl)))) (mvT hZ (hw _ (List.mem_of_getElem? (i := 58) rfl))) (mvT hZ (hw _ (List.mem_of_getElem? (i := 57) rfl))) (by decide) (StrChars.Road.eqW (W := 0) hZ heq (kI := 4) (hw _ (List.mem_of_getElem? (i := 21) rfl)) E_s1 F_value_s1 F_coder_s1 V_t_s1 (StrChars.Road.codOf (cs := own_L0) rfl (fun c hc => (own_lr0 c hc).2)) (own_up _ own_lr0) (by decide) Ex_104 Vx_105 Cx_106 Ax_107 (StrChars.Road.codOf rfl (fun c hc => (hpx c hc).2)) (own_up _ hpx) hlx (O2.ext O_108.2) P5 (by decide) (by decide)) q109a q109c (g := (mkF m 3 #[.val (.ref a1), .val (.ref x)] [(.ref x), (.ref s1)])) rfl (by rw [hml]; rfl) (Steps.refl _) (argsL := [(.ref x)]) (rest := []) (lenOf pd__Ljava_lang_Object__Z rfl) rfl (by show 2 * 0 + _ ≤ _; exact Nat.le_of_eq rfl) (hb hby dIA_3) (fun _ _ => ⟨rfl, e101, Nat.le_of_ble_eq_true rfl, Nat.le_of_ble_eq_true rfl⟩)
  dsimp only [Pt.U, Pt.locs, Pt.cells, Pt.slots] at X109 l109 y109 z109 st109 hQ109
  subst l109 y109 z109
  obtain ⟨⟨rfl, -⟩ | ⟨-, hno109⟩, rfl, e109⟩ := hQ109
  rotate_left
  · exact absurd q1 hno109
  have Nq109 : Fr n0 ([] : List Loc) := Fr.nil n0
  have N109 := Fr.app N0 Nq109
  obtain ⟨fs, hr, hrun, hended, hRE⟩ := X109.leaveW hS101 (by rw [e109]; exact hk101) (v := some (.int (1 : Int32))) (fun h => by rw [Bd.returns] at h; cases h)
  refine ⟨_, _, go0 _ ?_, hrun, hended, _, _, rfl, ?_, ?_, hRE.1, hRE.2.1, hRE.2.2.1, hRE.2.2.2.mono (by decide) (by decide)⟩
  · show Steps p.tables e below (s₁.setTop (mkF m 0 #[.val (.ref a1), .val (.ref x)] [])) _
    refine st101 _ ?_
    show Steps p.tables e below (T101.setTop (mkF m 2 #[.val (.ref a1), .val (.ref x)] [(.ref s1)])) _
    refine XS.aloadN X101.here hx rfl (hb hby dIA_2) rfl rfl ?_
    show Steps p.tables e below (T101.setTop (mkF m 3 #[.val (.ref a1), .val (.ref x)] [(.ref x), (.ref s1)])) _
    refine st109.trans ?_
    show Steps p.tables e below (T109.setTop (mkF m 6 #[.val (.ref a1), .val (.ref x)] [(.int (1 : Int32))])) _
    refine XS.ifYes X109.here hx rfl (pc0 := 6) (pc' := 18) rfl (hb hby dIA_6) rfl ((if0 _ _).trans (feq ((by decide) : ¬ ((1 : Int32) = (0 : Int32)))).2) (by decide) (by decide) ?_
    show Steps p.tables e below (T109.setTop (mkF m 18 #[.val (.ref a1), .val (.ref x)] [])) _
    refine XS.iconst X109.here hx rfl (hb hby dIA_18) ?_
    show Steps p.tables e below (T109.setTop (mkF m 19 #[.val (.ref a1), .val (.ref x)] [(.int (1 : Int32))])) _
    refine XS.goto X109.here hx rfl (pc0 := 19) (pc' := 23) rfl (hb hby dIA_19) (by decide) (by decide) ?_
    show Steps p.tables e below (T109.setTop (mkF m 23 #[.val (.ref a1), .val (.ref x)] [(.int (1 : Int32))])) _
    exact retN X109 hx (t := .boolean) Bd.returns (by simp) (hb hby dIA_23) hr
  · show QR 1 h0 n0 _ T109.heap _
    rw [e109]
    exact ⟨rfl, N109, KH103⟩
  · show CHr Z own_EL s.vm s.heap T109.vm T109.heap
    rw [hh, e109]
    exact R102.trans (CHv.at X109 hZ hEL R102.1)
set_option maxRecDepth 65536 in
set_option maxHeartbeats 40000000 in
theorem rmIA_b (l : Launch) (Z : State) (a0 : Array Value) (hw : ∀ d ∈ tables_1, d.before a0 Z = true) (ws : List Jvm.Cond) (a1 x t : Addr) (kt : ClassId) (cs : List Int32) (G1 : Int32) (h0 : Heap) (n0 : Nat) (Ex : Exa Z h0 x "java/lang/String") (Vx : Fld Z h0 x "java/lang/String" "value" "[B" (.ref t)) (Cx : Fld Z h0 x "java/lang/String" "coder" "B" (.int (0 : Int32))) (Ax : Arv Z h0 t kt .byte (Int32.ofNat cs.length) ((cs.map (fun c => c.toInt8.toInt32)).map Value.int) (.int (0 : Int32))) (hpx : ∀ c ∈ cs, ¬ c < 0 ∧ ¬ (255 : Int32) < c) (hlx : cs.length ≤ 4000) (O2 : Sta Z Z.heap "java/lang/String" "COMPACT_STRINGS" "Z" (.int G1)) (P5 : ¬ (G1 = (0 : Int32))) (X00 : Old Z n0 h0) (q1 : ¬ (own_L0 = cs)) (q2 : own_L1 = cs) :
    MetFree l (⟨"com/example/tramway/tramway/poa/TramwayPoaManager", "_is_a", "(Ljava/lang/String;)Z"⟩ : MethodName) (head1 (Jvm.Cond.code (⟨"com/example/tramway/tramway/poa/TramwayPoaManager", "_is_a", "(Ljava/lang/String;)Z"⟩ : MethodName) prog_144_method_5_code 2 (some .boolean) :: ws) ({ frames := 2, cells := 4, slots := 284, locals := 28 } : Room)) (fun a U => a = #[(.ref a1), (.ref x)] ∧ Z.Warmed39 U.vm ∧ U.heap = h0 ∧ CHv Z own_EL U.vm h0) (fun _ _ _ _ _ => True) (fun _ U o U' => ∃ v L, o = .returned v ∧ QR 1 h0 n0 v U'.heap L ∧ CHr Z own_EL U.vm U.heap U'.vm U'.heap ∧ ReturnedEndW U o U' L ({ frames := 2, cells := 4, slots := 284, locals := 28 } : Room).cells ({ frames := 2, cells := 4, slots := 284, locals := 28 } : Room).slots) := by
  refine MetFree.of_bodySF (plainFor_of_name pnM) hisR ?_
  intro p e s m args below meth c s₁ Bd hml0 hP hK
  obtain ⟨rfl, hZ, hh, HC⟩ := hP
  have hx := Bd.exec
  have hby := Bd.bytes
  have hml : c.maxLocals = 2 := hml0
  have hown : s.vm.findClass "com/example/tramway/tramway/poa/TramwayPoaManager" = some m.cls := findClass_of_methodNamed Bd.named
  have hnm := (name_of_methodNamed Bd.named Bd.method).1
  have X0 : Stand p l e ({ frames := 2, cells := 4, slots := 284, locals := 28 } : Room) (s.setVm s.vm) m #[(.ref a1), (.ref x)] below meth c s₁ [] 0 0 := Stand.of_body Bd
  have e0 : s₁.heap = h0 := by rw [← hh, Bd.state]; rfl
  have N0 := Fr.nil n0
  have go0 : ∀ tg_, Steps p.tables e below (s₁.setTop (mkF m 0 #[.val (.ref a1), .val (.ref x)] [])) tg_ → Steps p.tables e below (s₁.setTop (entryFrame m #[(.ref a1), (.ref x)] 2)) tg_ := fun tg_ k => castTop (efIA m a1 x) k
  have hEL : EW Z a0 own_EL := own_hEL hw
  have hsA : ∀ a ∈ Bundle.stringAtoms, a.before a0 Z = true := own_hsA hw
  have R0 : CHr Z own_EL s.vm h0 s.vm h0 := CHr.refl HC
  have hS0 : s.Since s.vm s.heap.size := (State.WarmedH.refl s).since _
  have hk0 : s.heap.size ≤ h0.size := Nat.le_of_eq (by rw [hh])
  have KH0 : Keep h0 h0 [] := Keep.refl h0 []
  have heq : ∀ d ∈ StrChars.Road.wordsEq, d.before a0 Z = true := fun d hd => hw d ((by decide +kernel : ∀ d ∈ StrChars.Road.wordsEq, d ∈ tables_1) d hd)
  obtain ⟨s1, T101, h101, kq101, t_s1, kb_s1, X101, e101, E101, hS101, hk101, hZ, hown, E_s1, F_coder_s1, F_value_s1, V_t_s1, lt_s1, lt_t_s1, C101, Li101, sn101, st101⟩ := ldcCH X0 hx hZ hown (hw _ (List.mem_of_getElem? (i := 52) rfl)) hsA e0 hS0 hk0 hEL (by decide) R0.1 (text := "IDL:omg.org/PortableServer/POAManager:2.3") (vs := ((own_L0.map (fun c => c.toInt8.toInt32)).map Value.int)) (z := (41 : Int32)) own_txt_0 (by decide) rfl (g := (mkF m 0 #[.val (.ref a1), .val (.ref x)] [])) rfl (hb hby dIA_0) (n := 164) (by decide) (by decide) (by decide) (by decide)
  have K101 : Keep h0 h101 [] := (Keep.refl _ []).ext E101
  have R102 := R0.trans C101
  have KH103 : Keep h0 h101 [] := KH0.trans K101 all0
  have Ex_104 := (Ex.keep K101)
  have Vx_105 := (Vx.keep K101 nin0)
  have Cx_106 := (Cx.keep K101 nin0)
  have Ax_107 := (Ax.keep K101 nin0)
  have O_108 := (X00.keep K101 all0)
  obtain ⟨cq109, kq109, q109a, q109b, q109c⟩ := isOf hZ e101 E_s1
  obtain ⟨_, _, ⟨T109, L109, kk109, nn109⟩, -, X109, ⟨Lc109, hQ109, l109, y109, z109⟩, st109⟩ := X101.virtualBack hx (y := (⟨"java/lang/String", "equals", "(Ljava/lang/Object;)Z"⟩ : MethodName)) (z := (⟨"java/lang/String", "equals", "(Ljava/lang/Object;)Z"⟩ : MethodName)) hown (mvT hZ (hw _ (List.mem_of_getElem? (i := 55) rfl))) (mvT hZ (hw _ (List.mem_of_getElem? (i := 56) rfl))) (notFace_of_selects (args := #[]) (mvT hZ (hw _ (List.mem_of_getElem? (i := 58) rfl)))) (mvT hZ (hw _ (List.mem_of_getElem? (i := 58) rfl))) (mvT hZ (hw _ (List.mem_of_getElem? (i := 57) rfl))) (by decide) (StrChars.Road.eqW (W := 0) hZ heq (kI := 4) (hw _ (List.mem_of_getElem? (i := 21) rfl)) E_s1 F_value_s1 F_coder_s1 V_t_s1 (StrChars.Road.codOf (cs := own_L0) rfl (fun c hc => (own_lr0 c hc).2)) (own_up _ own_lr0) (by decide) Ex_104 Vx_105 Cx_106 Ax_107 (StrChars.Road.codOf rfl (fun c hc => (hpx c hc).2)) (own_up _ hpx) hlx (O2.ext O_108.2) P5 (by decide) (by decide)) q109a q109c (g := (mkF m 3 #[.val (.ref a1), .val (.ref x)] [(.ref x), (.ref s1)])) rfl (by rw [hml]; rfl) (Steps.refl _) (argsL := [(.ref x)]) (rest := []) (lenOf pd__Ljava_lang_Object__Z rfl) rfl (by show 2 * 0 + _ ≤ _; exact Nat.le_of_eq rfl) (hb hby dIA_3) (fun _ _ => ⟨rfl, e101, Nat.le_of_ble_eq_true rfl, Nat.le_of_ble_eq_true rfl⟩)
  dsimp only [Pt.U, Pt.locs, Pt.cells, Pt.slots] at X109 l109 y109 z109 st109 hQ109
  subst l109 y109 z109
  obtain ⟨⟨-, hye109⟩ | ⟨rfl, -⟩, rfl, e109⟩ := hQ109
  · exact absurd hye109 q1
  have Nq109 : Fr n0 ([] : List Loc) := Fr.nil n0
  have N109 := Fr.app N0 Nq109
  have go111 : ∀ tg_, Steps p.tables e below (T109.setTop (mkF m 9 #[.val (.ref a1), .val (.ref x)] [])) tg_ → Steps p.tables e below (s₁.setTop (entryFrame m #[(.ref a1), (.ref x)] 2)) tg_ := fun tg_ k => go0 tg_ (by
      show Steps p.tables e below (s₁.setTop (mkF m 0 #[.val (.ref a1), .val (.ref x)] [])) _
      refine st101 _ ?_
      show Steps p.tables e below (T101.setTop (mkF m 2 #[.val (.ref a1), .val (.ref x)] [(.ref s1)])) _
      refine XS.aloadN X101.here hx rfl (hb hby dIA_2) rfl rfl ?_
      show Steps p.tables e below (T101.setTop (mkF m 3 #[.val (.ref a1), .val (.ref x)] [(.ref x), (.ref s1)])) _
      refine st109.trans ?_
      show Steps p.tables e below (T109.setTop (mkF m 6 #[.val (.ref a1), .val (.ref x)] [(.int (0 : Int32))])) _
      refine XS.ifNo X109.here hx rfl (hb hby dIA_6) rfl ((if0 _ _).trans (teq (rfl : (0 : Int32) = (0 : Int32))).2) ?_
      exact k)
  obtain ⟨s2, T110, h110, kq110, t_s2, kb_s2, X110, e110, E110, hS110, hk110, hZ, hown, E_s2, F_coder_s2, F_value_s2, V_t_s2, lt_s2, lt_t_s2, C110, Li110, sn110, st110⟩ := ldcCH X109 hx hZ hown (hw _ (List.mem_of_getElem? (i := 65) rfl)) hsA e109 hS101 hk101 hEL (by decide) R102.1 (text := "IDL:omg.org/CORBA/Object:1.0") (vs := ((own_L1.map (fun c => c.toInt8.toInt32)).map Value.int)) (z := (28 : Int32)) own_txt_1 (by decide) rfl (g := (mkF m 9 #[.val (.ref a1), .val (.ref x)] [])) rfl (hb hby dIA_9) (n := 112) (by decide) (by decide) (by decide) (by decide)
  have K110 : Keep h101 h110 [] := (Keep.refl _ []).ext E110
  have R112 := R102.trans C110
  have KH113 : Keep h0 h110 [] := KH103.trans K110 all0
  have Ex_114 := (Ex_104.keep K110)
  have Vx_115 := (Vx_105.keep K110 nin0)
  have Cx_116 := (Cx_106.keep K110 nin0)
  have Ax_117 := (Ax_107.keep K110 nin0)
  have O_118 := (O_108.keep K110 all0)
  obtain ⟨cq119, kq119, q119a, q119b, q119c⟩ := isOf hZ e110 E_s2
  obtain ⟨_, _, ⟨T119, L119, kk119, nn119⟩, -, X119, ⟨Lc119, hQ119, l119, y119, z119⟩, st119⟩ := X110.virtualBack hx (y := (⟨"java/lang/String", "equals", "(Ljava/lang/Object;)Z"⟩ : MethodName)) (z := (⟨"java/lang/String", "equals", "(Ljava/lang/Object;)Z"⟩ : MethodName)) hown (mvT hZ (hw _ (List.mem_of_getElem? (i := 55) rfl))) (mvT hZ (hw _ (List.mem_of_getElem? (i := 56) rfl))) (notFace_of_selects (args := #[]) (mvT hZ (hw _ (List.mem_of_getElem? (i := 58) rfl)))) (mvT hZ (hw _ (List.mem_of_getElem? (i := 58) rfl))) (mvT hZ (hw _ (List.mem_of_getElem? (i := 57) rfl))) (by decide) (StrChars.Road.eqW (W := 0) hZ heq (kI := 4) (hw _ (List.mem_of_getElem? (i := 21) rfl)) E_s2 F_value_s2 F_coder_s2 V_t_s2 (StrChars.Road.codOf (cs := own_L1) rfl (fun c hc => (own_lr1 c hc).2)) (own_up _ own_lr1) (by decide) Ex_114 Vx_115 Cx_116 Ax_117 (StrChars.Road.codOf rfl (fun c hc => (hpx c hc).2)) (own_up _ hpx) hlx (O2.ext O_118.2) P5 (by decide) (by decide)) q119a q119c (g := (mkF m 12 #[.val (.ref a1), .val (.ref x)] [(.ref x), (.ref s2)])) rfl (by rw [hml]; rfl) (Steps.refl _) (argsL := [(.ref x)]) (rest := []) (lenOf pd__Ljava_lang_Object__Z rfl) rfl (by show 2 * 0 + _ ≤ _; exact Nat.le_of_eq rfl) (hb hby dIA_12) (fun _ _ => ⟨rfl, e110, Nat.le_of_ble_eq_true rfl, Nat.le_of_ble_eq_true rfl⟩)
  dsimp only [Pt.U, Pt.locs, Pt.cells, Pt.slots] at X119 l119 y119 z119 st119 hQ119
  subst l119 y119 z119
  obtain ⟨⟨rfl, -⟩ | ⟨-, hno119⟩, rfl, e119⟩ := hQ119
  rotate_left
  · exact absurd q2 hno119
  have Nq119 : Fr n0 ([] : List Loc) := Fr.nil n0
  have N119 := Fr.app N109 Nq119
  obtain ⟨fs, hr, hrun, hended, hRE⟩ := X119.leaveW hS110 (by rw [e119]; exact hk110) (v := some (.int (1 : Int32))) (fun h => by rw [Bd.returns] at h; cases h)
  refine ⟨_, _, go111 _ ?_, hrun, hended, _, _, rfl, ?_, ?_, hRE.1, hRE.2.1, hRE.2.2.1, hRE.2.2.2.mono (by decide) (by decide)⟩
  · show Steps p.tables e below (T109.setTop (mkF m 9 #[.val (.ref a1), .val (.ref x)] [])) _
    refine st110 _ ?_
    show Steps p.tables e below (T110.setTop (mkF m 11 #[.val (.ref a1), .val (.ref x)] [(.ref s2)])) _
    refine XS.aloadN X110.here hx rfl (hb hby dIA_11) rfl rfl ?_
    show Steps p.tables e below (T110.setTop (mkF m 12 #[.val (.ref a1), .val (.ref x)] [(.ref x), (.ref s2)])) _
    refine st119.trans ?_
    show Steps p.tables e below (T119.setTop (mkF m 15 #[.val (.ref a1), .val (.ref x)] [(.int (1 : Int32))])) _
    refine XS.ifNo X119.here hx rfl (hb hby dIA_15) rfl ((if0 _ _).trans (feq ((by decide) : ¬ ((1 : Int32) = (0 : Int32)))).1) ?_
    show Steps p.tables e below (T119.setTop (mkF m 18 #[.val (.ref a1), .val (.ref x)] [])) _
    refine XS.iconst X119.here hx rfl (hb hby dIA_18) ?_
    show Steps p.tables e below (T119.setTop (mkF m 19 #[.val (.ref a1), .val (.ref x)] [(.int (1 : Int32))])) _
    refine XS.goto X119.here hx rfl (pc0 := 19) (pc' := 23) rfl (hb hby dIA_19) (by decide) (by decide) ?_
    show Steps p.tables e below (T119.setTop (mkF m 23 #[.val (.ref a1), .val (.ref x)] [(.int (1 : Int32))])) _
    exact retN X119 hx (t := .boolean) Bd.returns (by simp) (hb hby dIA_23) hr
  · show QR 1 h0 n0 _ T119.heap _
    rw [e119]
    exact ⟨rfl, N119, KH113⟩
  · show CHr Z own_EL s.vm s.heap T119.vm T119.heap
    rw [hh, e119]
    exact R112.trans (CHv.at X119 hZ hEL R112.1)
set_option maxRecDepth 65536 in
set_option maxHeartbeats 40000000 in
theorem rmIA_c (l : Launch) (Z : State) (a0 : Array Value) (hw : ∀ d ∈ tables_1, d.before a0 Z = true) (ws : List Jvm.Cond) (a1 x t : Addr) (kt : ClassId) (cs : List Int32) (G1 : Int32) (h0 : Heap) (n0 : Nat) (Ex : Exa Z h0 x "java/lang/String") (Vx : Fld Z h0 x "java/lang/String" "value" "[B" (.ref t)) (Cx : Fld Z h0 x "java/lang/String" "coder" "B" (.int (0 : Int32))) (Ax : Arv Z h0 t kt .byte (Int32.ofNat cs.length) ((cs.map (fun c => c.toInt8.toInt32)).map Value.int) (.int (0 : Int32))) (hpx : ∀ c ∈ cs, ¬ c < 0 ∧ ¬ (255 : Int32) < c) (hlx : cs.length ≤ 4000) (O2 : Sta Z Z.heap "java/lang/String" "COMPACT_STRINGS" "Z" (.int G1)) (P5 : ¬ (G1 = (0 : Int32))) (X00 : Old Z n0 h0) (q1 : ¬ (own_L0 = cs)) (q2 : ¬ (own_L1 = cs)) :
    MetFree l (⟨"com/example/tramway/tramway/poa/TramwayPoaManager", "_is_a", "(Ljava/lang/String;)Z"⟩ : MethodName) (head1 (Jvm.Cond.code (⟨"com/example/tramway/tramway/poa/TramwayPoaManager", "_is_a", "(Ljava/lang/String;)Z"⟩ : MethodName) prog_144_method_5_code 2 (some .boolean) :: ws) ({ frames := 2, cells := 4, slots := 284, locals := 28 } : Room)) (fun a U => a = #[(.ref a1), (.ref x)] ∧ Z.Warmed39 U.vm ∧ U.heap = h0 ∧ CHv Z own_EL U.vm h0) (fun _ _ _ _ _ => True) (fun _ U o U' => ∃ v L, o = .returned v ∧ QR 0 h0 n0 v U'.heap L ∧ CHr Z own_EL U.vm U.heap U'.vm U'.heap ∧ ReturnedEndW U o U' L ({ frames := 2, cells := 4, slots := 284, locals := 28 } : Room).cells ({ frames := 2, cells := 4, slots := 284, locals := 28 } : Room).slots) := by
  refine MetFree.of_bodySF (plainFor_of_name pnM) hisR ?_
  intro p e s m args below meth c s₁ Bd hml0 hP hK
  obtain ⟨rfl, hZ, hh, HC⟩ := hP
  have hx := Bd.exec
  have hby := Bd.bytes
  have hml : c.maxLocals = 2 := hml0
  have hown : s.vm.findClass "com/example/tramway/tramway/poa/TramwayPoaManager" = some m.cls := findClass_of_methodNamed Bd.named
  have hnm := (name_of_methodNamed Bd.named Bd.method).1
  have X0 : Stand p l e ({ frames := 2, cells := 4, slots := 284, locals := 28 } : Room) (s.setVm s.vm) m #[(.ref a1), (.ref x)] below meth c s₁ [] 0 0 := Stand.of_body Bd
  have e0 : s₁.heap = h0 := by rw [← hh, Bd.state]; rfl
  have N0 := Fr.nil n0
  have go0 : ∀ tg_, Steps p.tables e below (s₁.setTop (mkF m 0 #[.val (.ref a1), .val (.ref x)] [])) tg_ → Steps p.tables e below (s₁.setTop (entryFrame m #[(.ref a1), (.ref x)] 2)) tg_ := fun tg_ k => castTop (efIA m a1 x) k
  have hEL : EW Z a0 own_EL := own_hEL hw
  have hsA : ∀ a ∈ Bundle.stringAtoms, a.before a0 Z = true := own_hsA hw
  have R0 : CHr Z own_EL s.vm h0 s.vm h0 := CHr.refl HC
  have hS0 : s.Since s.vm s.heap.size := (State.WarmedH.refl s).since _
  have hk0 : s.heap.size ≤ h0.size := Nat.le_of_eq (by rw [hh])
  have KH0 : Keep h0 h0 [] := Keep.refl h0 []
  have heq : ∀ d ∈ StrChars.Road.wordsEq, d.before a0 Z = true := fun d hd => hw d ((by decide +kernel : ∀ d ∈ StrChars.Road.wordsEq, d ∈ tables_1) d hd)
  obtain ⟨s1, T101, h101, kq101, t_s1, kb_s1, X101, e101, E101, hS101, hk101, hZ, hown, E_s1, F_coder_s1, F_value_s1, V_t_s1, lt_s1, lt_t_s1, C101, Li101, sn101, st101⟩ := ldcCH X0 hx hZ hown (hw _ (List.mem_of_getElem? (i := 52) rfl)) hsA e0 hS0 hk0 hEL (by decide) R0.1 (text := "IDL:omg.org/PortableServer/POAManager:2.3") (vs := ((own_L0.map (fun c => c.toInt8.toInt32)).map Value.int)) (z := (41 : Int32)) own_txt_0 (by decide) rfl (g := (mkF m 0 #[.val (.ref a1), .val (.ref x)] [])) rfl (hb hby dIA_0) (n := 164) (by decide) (by decide) (by decide) (by decide)
  have K101 : Keep h0 h101 [] := (Keep.refl _ []).ext E101
  have R102 := R0.trans C101
  have KH103 : Keep h0 h101 [] := KH0.trans K101 all0
  have Ex_104 := (Ex.keep K101)
  have Vx_105 := (Vx.keep K101 nin0)
  have Cx_106 := (Cx.keep K101 nin0)
  have Ax_107 := (Ax.keep K101 nin0)
  have O_108 := (X00.keep K101 all0)
  obtain ⟨cq109, kq109, q109a, q109b, q109c⟩ := isOf hZ e101 E_s1
  obtain ⟨_, _, ⟨T109, L109, kk109, nn109⟩, -, X109, ⟨Lc109, hQ109, l109, y109, z109⟩, st109⟩ := X101.virtualBack hx (y := (⟨"java/lang/String", "equals", "(Ljava/lang/Object;)Z"⟩ : MethodName)) (z := (⟨"java/lang/String", "equals", "(Ljava/lang/Object;)Z"⟩ : MethodName)) hown (mvT hZ (hw _ (List.mem_of_getElem? (i := 55) rfl))) (mvT hZ (hw _ (List.mem_of_getElem? (i := 56) rfl))) (notFace_of_selects (args := #[]) (mvT hZ (hw _ (List.mem_of_getElem? (i := 58) rfl)))) (mvT hZ (hw _ (List.mem_of_getElem? (i := 58) rfl))) (mvT hZ (hw _ (List.mem_of_getElem? (i := 57) rfl))) (by decide) (StrChars.Road.eqW (W := 0) hZ heq (kI := 4) (hw _ (List.mem_of_getElem? (i := 21) rfl)) E_s1 F_value_s1 F_coder_s1 V_t_s1 (StrChars.Road.codOf (cs := own_L0) rfl (fun c hc => (own_lr0 c hc).2)) (own_up _ own_lr0) (by decide) Ex_104 Vx_105 Cx_106 Ax_107 (StrChars.Road.codOf rfl (fun c hc => (hpx c hc).2)) (own_up _ hpx) hlx (O2.ext O_108.2) P5 (by decide) (by decide)) q109a q109c (g := (mkF m 3 #[.val (.ref a1), .val (.ref x)] [(.ref x), (.ref s1)])) rfl (by rw [hml]; rfl) (Steps.refl _) (argsL := [(.ref x)]) (rest := []) (lenOf pd__Ljava_lang_Object__Z rfl) rfl (by show 2 * 0 + _ ≤ _; exact Nat.le_of_eq rfl) (hb hby dIA_3) (fun _ _ => ⟨rfl, e101, Nat.le_of_ble_eq_true rfl, Nat.le_of_ble_eq_true rfl⟩)
  dsimp only [Pt.U, Pt.locs, Pt.cells, Pt.slots] at X109 l109 y109 z109 st109 hQ109
  subst l109 y109 z109
  obtain ⟨⟨-, hye109⟩ | ⟨rfl, -⟩, rfl, e109⟩ := hQ109
  · exact absurd hye109 q1
  have Nq109 : Fr n0 ([] : List Loc) := Fr.nil n0
  have N109 := Fr.app N0 Nq109
  have go111 : ∀ tg_, Steps p.tables e below (T109.setTop (mkF m 9 #[.val (.ref a1), .val (.ref x)] [])) tg_ → Steps p.tables e below (s₁.setTop (entryFrame m #[(.ref a1), (.ref x)] 2)) tg_ := fun tg_ k => go0 tg_ (by
      show Steps p.tables e below (s₁.setTop (mkF m 0 #[.val (.ref a1), .val (.ref x)] [])) _
      refine st101 _ ?_
      show Steps p.tables e below (T101.setTop (mkF m 2 #[.val (.ref a1), .val (.ref x)] [(.ref s1)])) _
      refine XS.aloadN X101.here hx rfl (hb hby dIA_2) rfl rfl ?_
      show Steps p.tables e below (T101.setTop (mkF m 3 #[.val (.ref a1), .val (.ref x)] [(.ref x), (.ref s1)])) _
      refine st109.trans ?_
      show Steps p.tables e below (T109.setTop (mkF m 6 #[.val (.ref a1), .val (.ref x)] [(.int (0 : Int32))])) _
      refine XS.ifNo X109.here hx rfl (hb hby dIA_6) rfl ((if0 _ _).trans (teq (rfl : (0 : Int32) = (0 : Int32))).2) ?_
      exact k)
  obtain ⟨s2, T110, h110, kq110, t_s2, kb_s2, X110, e110, E110, hS110, hk110, hZ, hown, E_s2, F_coder_s2, F_value_s2, V_t_s2, lt_s2, lt_t_s2, C110, Li110, sn110, st110⟩ := ldcCH X109 hx hZ hown (hw _ (List.mem_of_getElem? (i := 65) rfl)) hsA e109 hS101 hk101 hEL (by decide) R102.1 (text := "IDL:omg.org/CORBA/Object:1.0") (vs := ((own_L1.map (fun c => c.toInt8.toInt32)).map Value.int)) (z := (28 : Int32)) own_txt_1 (by decide) rfl (g := (mkF m 9 #[.val (.ref a1), .val (.ref x)] [])) rfl (hb hby dIA_9) (n := 112) (by decide) (by decide) (by decide) (by decide)
  have K110 : Keep h101 h110 [] := (Keep.refl _ []).ext E110
  have R112 := R102.trans C110
  have KH113 : Keep h0 h110 [] := KH103.trans K110 all0
  have Ex_114 := (Ex_104.keep K110)
  have Vx_115 := (Vx_105.keep K110 nin0)
  have Cx_116 := (Cx_106.keep K110 nin0)
  have Ax_117 := (Ax_107.keep K110 nin0)
  have O_118 := (O_108.keep K110 all0)
  obtain ⟨cq119, kq119, q119a, q119b, q119c⟩ := isOf hZ e110 E_s2
  obtain ⟨_, _, ⟨T119, L119, kk119, nn119⟩, -, X119, ⟨Lc119, hQ119, l119, y119, z119⟩, st119⟩ := X110.virtualBack hx (y := (⟨"java/lang/String", "equals", "(Ljava/lang/Object;)Z"⟩ : MethodName)) (z := (⟨"java/lang/String", "equals", "(Ljava/lang/Object;)Z"⟩ : MethodName)) hown (mvT hZ (hw _ (List.mem_of_getElem? (i := 55) rfl))) (mvT hZ (hw _ (List.mem_of_getElem? (i := 56) rfl))) (notFace_of_selects (args := #[]) (mvT hZ (hw _ (List.mem_of_getElem? (i := 58) rfl)))) (mvT hZ (hw _ (List.mem_of_getElem? (i := 58) rfl))) (mvT hZ (hw _ (List.mem_of_getElem? (i := 57) rfl))) (by decide) (StrChars.Road.eqW (W := 0) hZ heq (kI := 4) (hw _ (List.mem_of_getElem? (i := 21) rfl)) E_s2 F_value_s2 F_coder_s2 V_t_s2 (StrChars.Road.codOf (cs := own_L1) rfl (fun c hc => (own_lr1 c hc).2)) (own_up _ own_lr1) (by decide) Ex_114 Vx_115 Cx_116 Ax_117 (StrChars.Road.codOf rfl (fun c hc => (hpx c hc).2)) (own_up _ hpx) hlx (O2.ext O_118.2) P5 (by decide) (by decide)) q119a q119c (g := (mkF m 12 #[.val (.ref a1), .val (.ref x)] [(.ref x), (.ref s2)])) rfl (by rw [hml]; rfl) (Steps.refl _) (argsL := [(.ref x)]) (rest := []) (lenOf pd__Ljava_lang_Object__Z rfl) rfl (by show 2 * 0 + _ ≤ _; exact Nat.le_of_eq rfl) (hb hby dIA_12) (fun _ _ => ⟨rfl, e110, Nat.le_of_ble_eq_true rfl, Nat.le_of_ble_eq_true rfl⟩)
  dsimp only [Pt.U, Pt.locs, Pt.cells, Pt.slots] at X119 l119 y119 z119 st119 hQ119
  subst l119 y119 z119
  obtain ⟨⟨-, hye119⟩ | ⟨rfl, -⟩, rfl, e119⟩ := hQ119
  · exact absurd hye119 q2
  have Nq119 : Fr n0 ([] : List Loc) := Fr.nil n0
  have N119 := Fr.app N109 Nq119
  obtain ⟨fs, hr, hrun, hended, hRE⟩ := X119.leaveW hS110 (by rw [e119]; exact hk110) (v := some (.int (0 : Int32))) (fun h => by rw [Bd.returns] at h; cases h)
  refine ⟨_, _, go111 _ ?_, hrun, hended, _, _, rfl, ?_, ?_, hRE.1, hRE.2.1, hRE.2.2.1, hRE.2.2.2.mono (by decide) (by decide)⟩
  · show Steps p.tables e below (T109.setTop (mkF m 9 #[.val (.ref a1), .val (.ref x)] [])) _
    refine st110 _ ?_
    show Steps p.tables e below (T110.setTop (mkF m 11 #[.val (.ref a1), .val (.ref x)] [(.ref s2)])) _
    refine XS.aloadN X110.here hx rfl (hb hby dIA_11) rfl rfl ?_
    show Steps p.tables e below (T110.setTop (mkF m 12 #[.val (.ref a1), .val (.ref x)] [(.ref x), (.ref s2)])) _
    refine st119.trans ?_
    show Steps p.tables e below (T119.setTop (mkF m 15 #[.val (.ref a1), .val (.ref x)] [(.int (0 : Int32))])) _
    refine XS.ifYes X119.here hx rfl (pc0 := 15) (pc' := 22) rfl (hb hby dIA_15) rfl ((if0 _ _).trans (teq (rfl : (0 : Int32) = (0 : Int32))).1) (by decide) (by decide) ?_
    show Steps p.tables e below (T119.setTop (mkF m 22 #[.val (.ref a1), .val (.ref x)] [])) _
    refine XS.iconst X119.here hx rfl (hb hby dIA_22) ?_
    show Steps p.tables e below (T119.setTop (mkF m 23 #[.val (.ref a1), .val (.ref x)] [(.int (0 : Int32))])) _
    exact retN X119 hx (t := .boolean) Bd.returns (by simp) (hb hby dIA_23) hr
  · show QR 0 h0 n0 _ T119.heap _
    rw [e119]
    exact ⟨rfl, N119, KH113⟩
  · show CHr Z own_EL s.vm s.heap T119.vm T119.heap
    rw [hh, e119]
    exact R112.trans (CHv.at X119 hZ hEL R112.1)
set_option maxRecDepth 65536 in
set_option maxHeartbeats 40000000 in
theorem rmIAn (l : Launch) (Z : State) (a0 : Array Value) (hw : ∀ d ∈ tables_1, d.before a0 Z = true) (ws : List Jvm.Cond) (a1 : Addr) (h0 : Heap) (n0 : Nat)  :
    MetFree l (⟨"com/example/tramway/tramway/poa/TramwayPoaManager", "_is_a", "(Ljava/lang/String;)Z"⟩ : MethodName) (head1 (Jvm.Cond.code (⟨"com/example/tramway/tramway/poa/TramwayPoaManager", "_is_a", "(Ljava/lang/String;)Z"⟩ : MethodName) prog_144_method_5_code 2 (some .boolean) :: ws) ({ frames := 2, cells := 4, slots := 284, locals := 28 } : Room)) (fun a U => a = #[(.ref a1), .null] ∧ Z.Warmed39 U.vm ∧ U.heap = h0 ∧ CHv Z own_EL U.vm h0) (fun _ _ _ _ _ => True) (fun _ U o U' => ∃ v L, o = .returned v ∧ QR 0 h0 n0 v U'.heap L ∧ CHr Z own_EL U.vm U.heap U'.vm U'.heap ∧ ReturnedEndW U o U' L ({ frames := 2, cells := 4, slots := 284, locals := 28 } : Room).cells ({ frames := 2, cells := 4, slots := 284, locals := 28 } : Room).slots) := by
  refine MetFree.of_bodySF (plainFor_of_name pnM) hisR ?_
  intro p e s m args below meth c s₁ Bd hml0 hP hK
  obtain ⟨rfl, hZ, hh, HC⟩ := hP
  have hx := Bd.exec
  have hby := Bd.bytes
  have hml : c.maxLocals = 2 := hml0
  have hown : s.vm.findClass "com/example/tramway/tramway/poa/TramwayPoaManager" = some m.cls := findClass_of_methodNamed Bd.named
  have hnm := (name_of_methodNamed Bd.named Bd.method).1
  have X0 : Stand p l e ({ frames := 2, cells := 4, slots := 284, locals := 28 } : Room) (s.setVm s.vm) m #[(.ref a1), .null] below meth c s₁ [] 0 0 := Stand.of_body Bd
  have e0 : s₁.heap = h0 := by rw [← hh, Bd.state]; rfl
  have N0 := Fr.nil n0
  have go0 : ∀ tg_, Steps p.tables e below (s₁.setTop (mkF m 0 #[.val (.ref a1), .val .null] [])) tg_ → Steps p.tables e below (s₁.setTop (entryFrame m #[(.ref a1), .null] 2)) tg_ := fun tg_ k => castTop (efIAn m a1) k
  have hEL : EW Z a0 own_EL := own_hEL hw
  have hsA : ∀ a ∈ Bundle.stringAtoms, a.before a0 Z = true := own_hsA hw
  have R0 : CHr Z own_EL s.vm h0 s.vm h0 := CHr.refl HC
  have hS0 : s.Since s.vm s.heap.size := (State.WarmedH.refl s).since _
  have hk0 : s.heap.size ≤ h0.size := Nat.le_of_eq (by rw [hh])
  have KH0 : Keep h0 h0 [] := Keep.refl h0 []
  obtain ⟨s1, T101, h101, kq101, t_s1, kb_s1, X101, e101, E101, hS101, hk101, hZ, hown, E_s1, F_coder_s1, F_value_s1, V_t_s1, lt_s1, lt_t_s1, C101, Li101, sn101, st101⟩ := ldcCH X0 hx hZ hown (hw _ (List.mem_of_getElem? (i := 52) rfl)) hsA e0 hS0 hk0 hEL (by decide) R0.1 (text := "IDL:omg.org/PortableServer/POAManager:2.3") (vs := ((own_L0.map (fun c => c.toInt8.toInt32)).map Value.int)) (z := (41 : Int32)) own_txt_0 (by decide) rfl (g := (mkF m 0 #[.val (.ref a1), .val .null] [])) rfl (hb hby dIA_0) (n := 164) (by decide) (by decide) (by decide) (by decide)
  have K101 : Keep h0 h101 [] := (Keep.refl _ []).ext E101
  have R102 := R0.trans C101
  have KH103 : Keep h0 h101 [] := KH0.trans K101 all0
  obtain ⟨cq104, kq104, q104a, q104b, q104c⟩ := isOf hZ e101 E_s1
  obtain ⟨_, _, ⟨T104, L104, kk104, nn104⟩, -, X104, ⟨Lc104, hQ104, l104, y104, z104⟩, st104⟩ := X101.virtualBack hx (y := (⟨"java/lang/String", "equals", "(Ljava/lang/Object;)Z"⟩ : MethodName)) (z := (⟨"java/lang/String", "equals", "(Ljava/lang/Object;)Z"⟩ : MethodName)) hown (mvT hZ (hw _ (List.mem_of_getElem? (i := 55) rfl))) (mvT hZ (hw _ (List.mem_of_getElem? (i := 56) rfl))) (notFace_of_selects (args := #[]) (mvT hZ (hw _ (List.mem_of_getElem? (i := 58) rfl)))) (mvT hZ (hw _ (List.mem_of_getElem? (i := 58) rfl))) (mvT hZ (hw _ (List.mem_of_getElem? (i := 57) rfl))) (by decide) (backOf (W := 0) (rmEN l Z a0 hw [] s1 h101 n0) hZ (hw _ (List.mem_of_getElem? (i := 59) rfl)) (hw _ (List.mem_of_getElem? (i := 22) rfl)) (by decide) (by decide)) q104a q104c (g := (mkF m 3 #[.val (.ref a1), .val .null] [.null, (.ref s1)])) rfl (by rw [hml]; rfl) (Steps.refl _) (argsL := [.null]) (rest := []) (lenOf pd__Ljava_lang_Object__Z rfl) rfl (by show 2 * 0 + _ ≤ _; exact Nat.le_of_eq rfl) (hb hby dIA_3) (fun _ _ => ⟨rfl, e101, Nat.le_of_ble_eq_true rfl, Nat.le_of_ble_eq_true rfl⟩)
  dsimp only [Pt.U, Pt.locs, Pt.cells, Pt.slots] at X104 l104 y104 z104 st104 hQ104
  subst l104 y104 z104
  obtain ⟨rfl, Nq104, e104⟩ := hQ104
  have N104 := Fr.app N0 Nq104
  have go106 : ∀ tg_, Steps p.tables e below (T104.setTop (mkF m 9 #[.val (.ref a1), .val .null] [])) tg_ → Steps p.tables e below (s₁.setTop (entryFrame m #[(.ref a1), .null] 2)) tg_ := fun tg_ k => go0 tg_ (by
      show Steps p.tables e below (s₁.setTop (mkF m 0 #[.val (.ref a1), .val .null] [])) _
      refine st101 _ ?_
      show Steps p.tables e below (T101.setTop (mkF m 2 #[.val (.ref a1), .val .null] [(.ref s1)])) _
      refine XS.aloadN X101.here hx rfl (hb hby dIA_2) rfl rfl ?_
      show Steps p.tables e below (T101.setTop (mkF m 3 #[.val (.ref a1), .val .null] [.null, (.ref s1)])) _
      refine st104.trans ?_
      show Steps p.tables e below (T104.setTop (mkF m 6 #[.val (.ref a1), .val .null] [(.int (0 : Int32))])) _
      refine XS.ifNo X104.here hx rfl (hb hby dIA_6) rfl ((if0 _ _).trans (teq (rfl : (0 : Int32) = (0 : Int32))).2) ?_
      exact k)
  obtain ⟨s2, T105, h105, kq105, t_s2, kb_s2, X105, e105, E105, hS105, hk105, hZ, hown, E_s2, F_coder_s2, F_value_s2, V_t_s2, lt_s2, lt_t_s2, C105, Li105, sn105, st105⟩ := ldcCH X104 hx hZ hown (hw _ (List.mem_of_getElem? (i := 65) rfl)) hsA e104 hS101 hk101 hEL (by decide) R102.1 (text := "IDL:omg.org/CORBA/Object:1.0") (vs := ((own_L1.map (fun c => c.toInt8.toInt32)).map Value.int)) (z := (28 : Int32)) own_txt_1 (by decide) rfl (g := (mkF m 9 #[.val (.ref a1), .val .null] [])) rfl (hb hby dIA_9) (n := 112) (by decide) (by decide) (by decide) (by decide)
  have K105 : Keep h101 h105 [] := (Keep.refl _ []).ext E105
  have R107 := R102.trans C105
  have KH108 : Keep h0 h105 [] := KH103.trans K105 all0
  obtain ⟨cq109, kq109, q109a, q109b, q109c⟩ := isOf hZ e105 E_s2
  obtain ⟨_, _, ⟨T109, L109, kk109, nn109⟩, -, X109, ⟨Lc109, hQ109, l109, y109, z109⟩, st109⟩ := X105.virtualBack hx (y := (⟨"java/lang/String", "equals", "(Ljava/lang/Object;)Z"⟩ : MethodName)) (z := (⟨"java/lang/String", "equals", "(Ljava/lang/Object;)Z"⟩ : MethodName)) hown (mvT hZ (hw _ (List.mem_of_getElem? (i := 55) rfl))) (mvT hZ (hw _ (List.mem_of_getElem? (i := 56) rfl))) (notFace_of_selects (args := #[]) (mvT hZ (hw _ (List.mem_of_getElem? (i := 58) rfl)))) (mvT hZ (hw _ (List.mem_of_getElem? (i := 58) rfl))) (mvT hZ (hw _ (List.mem_of_getElem? (i := 57) rfl))) (by decide) (backOf (W := 0) (rmEN l Z a0 hw [] s2 h105 n0) hZ (hw _ (List.mem_of_getElem? (i := 59) rfl)) (hw _ (List.mem_of_getElem? (i := 22) rfl)) (by decide) (by decide)) q109a q109c (g := (mkF m 12 #[.val (.ref a1), .val .null] [.null, (.ref s2)])) rfl (by rw [hml]; rfl) (Steps.refl _) (argsL := [.null]) (rest := []) (lenOf pd__Ljava_lang_Object__Z rfl) rfl (by show 2 * 0 + _ ≤ _; exact Nat.le_of_eq rfl) (hb hby dIA_12) (fun _ _ => ⟨rfl, e105, Nat.le_of_ble_eq_true rfl, Nat.le_of_ble_eq_true rfl⟩)
  dsimp only [Pt.U, Pt.locs, Pt.cells, Pt.slots] at X109 l109 y109 z109 st109 hQ109
  subst l109 y109 z109
  obtain ⟨rfl, Nq109, e109⟩ := hQ109
  have N109 := Fr.app N104 Nq109
  obtain ⟨fs, hr, hrun, hended, hRE⟩ := X109.leaveW hS105 (by rw [e109]; exact hk105) (v := some (.int (0 : Int32))) (fun h => by rw [Bd.returns] at h; cases h)
  refine ⟨_, _, go106 _ ?_, hrun, hended, _, _, rfl, ?_, ?_, hRE.1, hRE.2.1, hRE.2.2.1, hRE.2.2.2.mono (by decide) (by decide)⟩
  · show Steps p.tables e below (T104.setTop (mkF m 9 #[.val (.ref a1), .val .null] [])) _
    refine st105 _ ?_
    show Steps p.tables e below (T105.setTop (mkF m 11 #[.val (.ref a1), .val .null] [(.ref s2)])) _
    refine XS.aloadN X105.here hx rfl (hb hby dIA_11) rfl rfl ?_
    show Steps p.tables e below (T105.setTop (mkF m 12 #[.val (.ref a1), .val .null] [.null, (.ref s2)])) _
    refine st109.trans ?_
    show Steps p.tables e below (T109.setTop (mkF m 15 #[.val (.ref a1), .val .null] [(.int (0 : Int32))])) _
    refine XS.ifYes X109.here hx rfl (pc0 := 15) (pc' := 22) rfl (hb hby dIA_15) rfl ((if0 _ _).trans (teq (rfl : (0 : Int32) = (0 : Int32))).1) (by decide) (by decide) ?_
    show Steps p.tables e below (T109.setTop (mkF m 22 #[.val (.ref a1), .val .null] [])) _
    refine XS.iconst X109.here hx rfl (hb hby dIA_22) ?_
    show Steps p.tables e below (T109.setTop (mkF m 23 #[.val (.ref a1), .val .null] [(.int (0 : Int32))])) _
    exact retN X109 hx (t := .boolean) Bd.returns (by simp) (hb hby dIA_23) hr
  · show QR 0 h0 n0 _ T109.heap _
    rw [e109]
    exact ⟨rfl, N109, KH108⟩
  · show CHr Z own_EL s.vm s.heap T109.vm T109.heap
    rw [hh, e109]
    exact R107.trans (CHv.at X109 hZ hEL R107.1)
theorem rmIA (l : Launch) (Z : State) (a0 : Array Value) (hw : ∀ d ∈ tables_1, d.before a0 Z = true) (ws : List Jvm.Cond) (a1 x t : Addr) (kt : ClassId) (cs : List Int32) (G1 : Int32) (h0 : Heap) (n0 : Nat) (Ex : Exa Z h0 x "java/lang/String") (Vx : Fld Z h0 x "java/lang/String" "value" "[B" (.ref t)) (Cx : Fld Z h0 x "java/lang/String" "coder" "B" (.int (0 : Int32))) (Ax : Arv Z h0 t kt .byte (Int32.ofNat cs.length) ((cs.map (fun c => c.toInt8.toInt32)).map Value.int) (.int (0 : Int32))) (hpx : ∀ c ∈ cs, ¬ c < 0 ∧ ¬ (255 : Int32) < c) (hlx : cs.length ≤ 4000) (O2 : Sta Z Z.heap "java/lang/String" "COMPACT_STRINGS" "Z" (.int G1)) (P5 : ¬ (G1 = (0 : Int32))) (X00 : Old Z n0 h0) :
    ∃ r : Int32, ((r = 1 ∧ (own_L0 = cs ∨ own_L1 = cs)) ∨ (r = 0 ∧ ¬ (own_L0 = cs ∨ own_L1 = cs))) ∧ MetFree l (⟨"com/example/tramway/tramway/poa/TramwayPoaManager", "_is_a", "(Ljava/lang/String;)Z"⟩ : MethodName) (head1 (Jvm.Cond.code (⟨"com/example/tramway/tramway/poa/TramwayPoaManager", "_is_a", "(Ljava/lang/String;)Z"⟩ : MethodName) prog_144_method_5_code 2 (some .boolean) :: ws) ({ frames := 2, cells := 4, slots := 284, locals := 28 } : Room)) (fun a U => a = #[(.ref a1), (.ref x)] ∧ Z.Warmed39 U.vm ∧ U.heap = h0 ∧ CHv Z own_EL U.vm h0) (fun _ _ _ _ _ => True) (fun _ U o U' => ∃ v L, o = .returned v ∧ QR r h0 n0 v U'.heap L ∧ CHr Z own_EL U.vm U.heap U'.vm U'.heap ∧ ReturnedEndW U o U' L ({ frames := 2, cells := 4, slots := 284, locals := 28 } : Room).cells ({ frames := 2, cells := 4, slots := 284, locals := 28 } : Room).slots) := by
  by_cases q1 : own_L0 = cs
  · exact ⟨1, Or.inl ⟨rfl, Or.inl q1⟩, rmIA_a l Z a0 hw ws a1 x t kt cs G1 h0 n0 Ex Vx Cx Ax hpx hlx O2 P5 X00 q1⟩
  · by_cases q2 : own_L1 = cs
    · exact ⟨1, Or.inl ⟨rfl, Or.inr q2⟩, rmIA_b l Z a0 hw ws a1 x t kt cs G1 h0 n0 Ex Vx Cx Ax hpx hlx O2 P5 X00 q1 q2⟩
    · exact ⟨0, Or.inr ⟨rfl, fun q => q.elim q1 q2⟩, rmIA_c l Z a0 hw ws a1 x t kt cs G1 h0 n0 Ex Vx Cx Ax hpx hlx O2 P5 X00 q1 q2⟩
theorem ef0 (m : MethodId) (x0 : Int32) (x1 : Int32) (x2 : Int32) (x3 : Int32) : entryFrame m #[(.int x0), (.int x1), (.int x2), (.int x3)] maxLocals = mkF m 0 #[.val (.int x0), .val (.int x1), .val (.int x2), .val (.int x3), .unset, .unset, .unset, .unset, .unset, .unset, .unset, .unset, .unset] [] := by first | (simp [entryFrame, mkF, argsToLocals, Value.category, maxLocals]; done) | rfl
def Q0 (h0 : Heap) (n0 : Nat) (v : Option Value) (h : Heap) (L : List Loc) : Prop := v = some (.int 1) ∧ Fr n0 L
set_option maxRecDepth 65536 in
set_option maxHeartbeats 40000000 in
theorem rm0 (l : Launch) (Z : State) (a0 : Array Value) (hw : ∀ d ∈ tables_1, d.before a0 Z = true) (ws : List Jvm.Cond) (p1 p2 p3 p4 G1 : Int32) (wh : Addr) (h0 : Heap) (n0 : Nat) (Z0 : n0 ≤ h0.size) (O2 : Sta Z Z.heap "java/lang/String" "COMPACT_STRINGS" "Z" (.int G1)) (P5 : ¬ (G1 = (0 : Int32))) (X00 : Old Z n0 h0) (SH : Sta Z Z.heap "com/example/tramway/tramway/poa/TramwayPoaManager$State" "HOLDING" "Lcom/example/tramway/tramway/poa/TramwayPoaManager$State;" (.ref wh)) :
    MetFree l x (head1 (Jvm.Cond.code x code maxLocals ret :: ws) room_1) (fun a U => a = #[(.int p1), (.int p2), (.int p3), (.int p4)] ∧ Z.Warmed39 U.vm ∧ U.heap = h0 ∧ CHv Z own_EL U.vm h0) (fun _ _ _ _ _ => True) (fun _ U o U' => ∃ v L, o = .returned v ∧ Q0 h0 n0 v U'.heap L ∧ CHr Z own_EL U.vm U.heap U'.vm U'.heap ∧ ReturnedEndW U o U' L 32 6464) := by
  refine MetFree.of_bodySF (plainFor_of_name pnL) hisR ?_
  intro p e s m args below meth c s₁ Bd hml0 hP hK
  obtain ⟨rfl, hZ, hh, HC⟩ := hP
  have hx := Bd.exec
  have hby := Bd.bytes
  have hml : c.maxLocals = 13 := hml0
  have hown : s.vm.findClass "com/example/tramway/tramway/poa/TramwayPoaManagerIs_aPinLaw" = some m.cls := findClass_of_methodNamed Bd.named
  have hnm := (name_of_methodNamed Bd.named Bd.method).1
  have X0 : Stand p l e room_1 (s.setVm s.vm) m #[(.int p1), (.int p2), (.int p3), (.int p4)] below meth c s₁ [] 0 0 := Stand.of_body Bd
  have e0 : s₁.heap = h0 := by rw [← hh, Bd.state]; rfl
  have N0 := Fr.nil n0
  have go0 : ∀ tg_, Steps p.tables e below (s₁.setTop (mkF m 0 #[.val (.int p1), .val (.int p2), .val (.int p3), .val (.int p4), .unset, .unset, .unset, .unset, .unset, .unset, .unset, .unset, .unset] [])) tg_ → Steps p.tables e below (s₁.setTop (entryFrame m #[(.int p1), (.int p2), (.int p3), (.int p4)] maxLocals)) tg_ := fun tg_ k => castTop (ef0 m p1 p2 p3 p4) k
  have hEL : EW Z a0 own_EL := own_hEL hw
  have hsA : ∀ a ∈ Bundle.stringAtoms, a.before a0 Z = true := own_hsA hw
  have R0 : CHr Z own_EL s.vm h0 s.vm h0 := CHr.refl HC
  have hS0 : s.Since s.vm s.heap.size := (State.WarmedH.refl s).since _
  have hk0 : s.heap.size ≤ h0.size := Nat.le_of_eq (by rw [hh])
  have hws : ∀ d ∈ StrChars.Road.words, d.before a0 Z = true := fun d hd => hw d ((by decide +kernel : ∀ d ∈ StrChars.Road.words, d ∈ tables_1) d hd)
  obtain ⟨T101, h101, X101, e101, E101, A101, D101, -, st101⟩ := newO X0 hx hZ hown (hw _ (List.mem_of_getElem? (i := 0) rfl)) (hw _ (List.mem_of_getElem? (i := 1) rfl)) (hw _ (List.mem_of_getElem? (i := 2) rfl)) e0 (g := (mkF m 0 #[.val (.int p1), .val (.int p2), .val (.int p3), .val (.int p4), .unset, .unset, .unset, .unset, .unset, .unset, .unset, .unset, .unset] [])) rfl (hb hby at_0) (by decide) (by decide)
  obtain ⟨mg, g101⟩ : ∃ z, z = h0.size := ⟨_, rfl⟩
  rw [← g101] at A101 D101 st101
  have g_mg : n0 ≤ mg := Nat.le_trans Z0 (Nat.le_of_eq g101.symm)
  have F_m_eState_mg : Fld Z h101 mg "com/example/tramway/tramway/poa/TramwayPoaManager" "m_eState" "Lcom/example/tramway/tramway/poa/TramwayPoaManager$State;" .null := D101 (Or.inl (hw _ (List.mem_of_getElem? (i := 13) rfl))) (ty := (.object "com/example/tramway/tramway/poa/TramwayPoaManager$State")) (by decide)
  have K101 : Keep h0 h101 [] := (Keep.refl _ []).ext E101
  have hs102 : ∀ sx_ ∈ ([] : List Addr), Safe Z own_EL s.vm h0 sx_ := all0
  have R102 := R0.trans (CHr.keep K101 hs102 R0.1)
  have lt_mg : mg < h101.size := A101.lt
  have O_103 := (X00.keep K101 all0)
  obtain ⟨_, _, ⟨T104, L104, kk104, nn104⟩, -, X104, ⟨Lc104, hQ104, l104, y104, z104⟩, st104⟩ := X101.specialBack hx (y := (⟨"com/example/tramway/tramway/poa/TramwayPoaManager", "<init>", "()V"⟩ : MethodName)) rfl hown (mvT hZ (hw _ (List.mem_of_getElem? (i := 3) rfl))) (mvT hZ (hw _ (List.mem_of_getElem? (i := 4) rfl))) (mvT hZ (hw _ (List.mem_of_getElem? (i := 5) rfl))) (by decide) (backOf (W := 1) (rmM l Z a0 hw [] mg wh _ h101 n0 g_mg A101 F_m_eState_mg (SH.ext O_103.2)) hZ (hw _ (List.mem_of_getElem? (i := 5) rfl)) (hw _ (List.mem_of_getElem? (i := 2) rfl)) (by decide) (by decide)) (g := (mkF m 4 #[.val (.int p1), .val (.int p2), .val (.int p3), .val (.int p4), .unset, .unset, .unset, .unset, .unset, .unset, .unset, .unset, .unset] [(.ref mg), (.ref mg)])) rfl (by rw [hml]; rfl) (Steps.refl _) (a := mg) (argsL := []) (rest := [(.ref mg)]) (lenOf pd___V rfl) rfl (by show 2 * 0 + _ ≤ _; exact Nat.le_of_eq rfl) (hb hby at_4) (fun _ _ => ⟨rfl, e101, Nat.le_of_ble_eq_true rfl, Nat.le_of_ble_eq_true rfl⟩)
  dsimp only [Pt.U, Pt.locs, Pt.cells, Pt.slots] at X104 l104 y104 z104 st104 hQ104
  subst l104 y104 z104
  obtain ⟨rfl, Nq104, K104, Em104⟩ := hQ104
  have N104 := Fr.app N0 Nq104
  have hs105 : ∀ sx_ ∈ ([mg] : List Addr), Safe Z own_EL s.vm h101 sx_ := (allS (Safe.exa hZ.alike A101 (by decide) (by decide)) all0)
  have R105 := R102.trans (CHr.keep K104 hs105 R102.1)
  have go106 : ∀ tg_, Steps p.tables e below (T104.setTop (mkF m 16 #[.val (.int p1), .val (.int p2), .val (.int p3), .val (.int p4), .val (.ref mg), .unset, .unset, .unset, .unset, .unset, .unset, .unset, .unset] [(.int ((p1 &&& (2147483647 : Int32)) % (6 : Int32)))])) tg_ → Steps p.tables e below (s₁.setTop (entryFrame m #[(.int p1), (.int p2), (.int p3), (.int p4)] maxLocals)) tg_ := fun tg_ k => go0 tg_ (by
      show Steps p.tables e below (s₁.setTop (mkF m 0 #[.val (.int p1), .val (.int p2), .val (.int p3), .val (.int p4), .unset, .unset, .unset, .unset, .unset, .unset, .unset, .unset, .unset] [])) _
      refine st101 _ ?_
      show Steps p.tables e below (T101.setTop (mkF m 3 #[.val (.int p1), .val (.int p2), .val (.int p3), .val (.int p4), .unset, .unset, .unset, .unset, .unset, .unset, .unset, .unset, .unset] [(.ref mg)])) _
      refine XS.dup X101.here hx rfl (hb hby at_3) rfl rfl ?_
      show Steps p.tables e below (T101.setTop (mkF m 4 #[.val (.int p1), .val (.int p2), .val (.int p3), .val (.int p4), .unset, .unset, .unset, .unset, .unset, .unset, .unset, .unset, .unset] [(.ref mg), (.ref mg)])) _
      refine st104.trans ?_
      show Steps p.tables e below (T104.setTop (mkF m 7 #[.val (.int p1), .val (.int p2), .val (.int p3), .val (.int p4), .unset, .unset, .unset, .unset, .unset, .unset, .unset, .unset, .unset] [(.ref mg)])) _
      refine XS.astore X104.here hx rfl (hb hby at_7) rfl rfl (l' := #[.val (.int p1), .val (.int p2), .val (.int p3), .val (.int p4), .val (.ref mg), .unset, .unset, .unset, .unset, .unset, .unset, .unset, .unset]) rfl ?_
      show Steps p.tables e below (T104.setTop (mkF m 9 #[.val (.int p1), .val (.int p2), .val (.int p3), .val (.int p4), .val (.ref mg), .unset, .unset, .unset, .unset, .unset, .unset, .unset, .unset] [])) _
      refine XS.iloadN X104.here hx rfl (hb hby at_9) rfl ?_
      show Steps p.tables e below (T104.setTop (mkF m 10 #[.val (.int p1), .val (.int p2), .val (.int p3), .val (.int p4), .val (.ref mg), .unset, .unset, .unset, .unset, .unset, .unset, .unset, .unset] [(.int p1)])) _
      refine X104.ldcInt hx hown (mvT hZ (hw _ (List.mem_of_getElem? (i := 14) rfl))) (g := (mkF m 10 #[.val (.int p1), .val (.int p2), .val (.int p3), .val (.int p4), .val (.ref mg), .unset, .unset, .unset, .unset, .unset, .unset, .unset, .unset] [(.int p1)])) rfl (hb hby at_10) _ ?_
      show Steps p.tables e below (T104.setTop (mkF m 12 #[.val (.int p1), .val (.int p2), .val (.int p3), .val (.int p4), .val (.ref mg), .unset, .unset, .unset, .unset, .unset, .unset, .unset, .unset] [(.int (2147483647 : Int32)), (.int p1)])) _
      refine XS.iand X104.here hx rfl (hb hby at_12) rfl ?_
      show Steps p.tables e below (T104.setTop (mkF m 13 #[.val (.int p1), .val (.int p2), .val (.int p3), .val (.int p4), .val (.ref mg), .unset, .unset, .unset, .unset, .unset, .unset, .unset, .unset] [(.int (p1 &&& (2147483647 : Int32)))])) _
      refine XS.bipush X104.here hx rfl (hb hby at_13) ?_
      show Steps p.tables e below (T104.setTop (mkF m 15 #[.val (.int p1), .val (.int p2), .val (.int p3), .val (.int p4), .val (.ref mg), .unset, .unset, .unset, .unset, .unset, .unset, .unset, .unset] [(.int (6 : Int32)), (.int (p1 &&& (2147483647 : Int32)))])) _
      refine Jvm.RoadKit.iremM X104 hx rfl (hb hby at_15) rfl (by decide) ?_
      show Steps p.tables e below (T104.setTop (mkF m 16 #[.val (.int p1), .val (.int p2), .val (.int p3), .val (.int p4), .val (.ref mg), .unset, .unset, .unset, .unset, .unset, .unset, .unset, .unset] [(.int ((p1 &&& (2147483647 : Int32)) % (6 : Int32)))])) _
      exact k)
  obtain ⟨kk, rkk, e_kk⟩ : ∃ z : Int32, (True) ∧ ((p1 &&& (2147483647 : Int32)) % (6 : Int32)) = z := ⟨_, trivial, rfl⟩
  rw [e_kk] at go106
  have go107 : ∀ tg_, Steps p.tables e below (T104.setTop (mkF m 24 #[.val (.int p1), .val (.int p2), .val (.int p3), .val (.int p4), .val (.ref mg), .val (.int kk), .unset, .unset, .unset, .unset, .unset, .unset, .unset] [(.int ((p3 &&& (255 : Int32)).toUInt32.toUInt16.toUInt32.toInt32))])) tg_ → Steps p.tables e below (s₁.setTop (entryFrame m #[(.int p1), (.int p2), (.int p3), (.int p4)] maxLocals)) tg_ := fun tg_ k => go106 tg_ (by
      show Steps p.tables e below (T104.setTop (mkF m 16 #[.val (.int p1), .val (.int p2), .val (.int p3), .val (.int p4), .val (.ref mg), .unset, .unset, .unset, .unset, .unset, .unset, .unset, .unset] [(.int kk)])) _
      refine XS.istore X104.here hx rfl (hb hby at_16) rfl (l' := #[.val (.int p1), .val (.int p2), .val (.int p3), .val (.int p4), .val (.ref mg), .val (.int kk), .unset, .unset, .unset, .unset, .unset, .unset, .unset]) rfl ?_
      show Steps p.tables e below (T104.setTop (mkF m 18 #[.val (.int p1), .val (.int p2), .val (.int p3), .val (.int p4), .val (.ref mg), .val (.int kk), .unset, .unset, .unset, .unset, .unset, .unset, .unset] [])) _
      refine XS.iloadN X104.here hx rfl (hb hby at_18) rfl ?_
      show Steps p.tables e below (T104.setTop (mkF m 19 #[.val (.int p1), .val (.int p2), .val (.int p3), .val (.int p4), .val (.ref mg), .val (.int kk), .unset, .unset, .unset, .unset, .unset, .unset, .unset] [(.int p3)])) _
      refine XS.sipush X104.here hx rfl (hb hby at_19) ?_
      show Steps p.tables e below (T104.setTop (mkF m 22 #[.val (.int p1), .val (.int p2), .val (.int p3), .val (.int p4), .val (.ref mg), .val (.int kk), .unset, .unset, .unset, .unset, .unset, .unset, .unset] [(.int (255 : Int32)), (.int p3)])) _
      refine XS.iand X104.here hx rfl (hb hby at_22) rfl ?_
      show Steps p.tables e below (T104.setTop (mkF m 23 #[.val (.int p1), .val (.int p2), .val (.int p3), .val (.int p4), .val (.ref mg), .val (.int kk), .unset, .unset, .unset, .unset, .unset, .unset, .unset] [(.int (p3 &&& (255 : Int32)))])) _
      refine XS.i2c X104.here hx rfl (hb hby at_23) rfl ?_
      show Steps p.tables e below (T104.setTop (mkF m 24 #[.val (.int p1), .val (.int p2), .val (.int p3), .val (.int p4), .val (.ref mg), .val (.int kk), .unset, .unset, .unset, .unset, .unset, .unset, .unset] [(.int ((p3 &&& (255 : Int32)).toUInt32.toUInt16.toUInt32.toInt32))])) _
      exact k)
  obtain ⟨c, rc, e_c⟩ : ∃ z : Int32, (¬ nar .char z < 0 ∧ ¬ (255 : Int32) < nar .char z ∧ nar .char z = z) ∧ ((p3 &&& (255 : Int32)).toUInt32.toUInt16.toUInt32.toInt32) = z := ⟨_, ⟨(own_and255 _).1, (own_and255 _).2, own_nar2 _⟩, rfl⟩
  rw [e_c] at go107
  have go108 : ∀ tg_, Steps p.tables e below (T104.setTop (mkF m 26 #[.val (.int p1), .val (.int p2), .val (.int p3), .val (.int p4), .val (.ref mg), .val (.int kk), .val (.int c), .unset, .unset, .unset, .unset, .unset, .unset] [])) tg_ → Steps p.tables e below (s₁.setTop (entryFrame m #[(.int p1), (.int p2), (.int p3), (.int p4)] maxLocals)) tg_ := fun tg_ k => go107 tg_ (by
      show Steps p.tables e below (T104.setTop (mkF m 24 #[.val (.int p1), .val (.int p2), .val (.int p3), .val (.int p4), .val (.ref mg), .val (.int kk), .unset, .unset, .unset, .unset, .unset, .unset, .unset] [(.int c)])) _
      refine XS.istore X104.here hx rfl (hb hby at_24) rfl (l' := #[.val (.int p1), .val (.int p2), .val (.int p3), .val (.int p4), .val (.ref mg), .val (.int kk), .val (.int c), .unset, .unset, .unset, .unset, .unset, .unset]) rfl ?_
      exact k)
  obtain ⟨mu, h_mu, go109⟩ : ∃ mu : Int32, (True) ∧ ∀ tg_, Steps p.tables e below (T104.setTop (mkF m 37 #[.val (.int p1), .val (.int p2), .val (.int p3), .val (.int p4), .val (.ref mg), .val (.int kk), .val (.int c), .unset, .unset, .unset, .unset, .unset, .unset] [(.int mu)])) tg_ → Steps p.tables e below (s₁.setTop (entryFrame m #[(.int p1), (.int p2), (.int p3), (.int p4)] maxLocals)) tg_ := by
    by_cases hq : (p4 &&& (1 : Int32)) = 0
    · skip
      refine ⟨(0 : Int32), trivial, fun tg_ k => go108 tg_ ?_⟩
      show Steps p.tables e below (T104.setTop (mkF m 26 #[.val (.int p1), .val (.int p2), .val (.int p3), .val (.int p4), .val (.ref mg), .val (.int kk), .val (.int c), .unset, .unset, .unset, .unset, .unset, .unset] [])) _
      refine XS.iloadN X104.here hx rfl (hb hby at_26) rfl ?_
      show Steps p.tables e below (T104.setTop (mkF m 27 #[.val (.int p1), .val (.int p2), .val (.int p3), .val (.int p4), .val (.ref mg), .val (.int kk), .val (.int c), .unset, .unset, .unset, .unset, .unset, .unset] [(.int p4)])) _
      refine XS.iconst X104.here hx rfl (hb hby at_27) ?_
      show Steps p.tables e below (T104.setTop (mkF m 28 #[.val (.int p1), .val (.int p2), .val (.int p3), .val (.int p4), .val (.ref mg), .val (.int kk), .val (.int c), .unset, .unset, .unset, .unset, .unset, .unset] [(.int (1 : Int32)), (.int p4)])) _
      refine XS.iand X104.here hx rfl (hb hby at_28) rfl ?_
      show Steps p.tables e below (T104.setTop (mkF m 29 #[.val (.int p1), .val (.int p2), .val (.int p3), .val (.int p4), .val (.ref mg), .val (.int kk), .val (.int c), .unset, .unset, .unset, .unset, .unset, .unset] [(.int (p4 &&& (1 : Int32)))])) _
      refine XS.ifYes X104.here hx rfl (pc0 := 29) (pc' := 36) rfl (hb hby at_29) rfl ((if0 _ _).trans (teq (hq : (p4 &&& (1 : Int32)) = (0 : Int32))).1) (by decide) (by decide) ?_
      show Steps p.tables e below (T104.setTop (mkF m 36 #[.val (.int p1), .val (.int p2), .val (.int p3), .val (.int p4), .val (.ref mg), .val (.int kk), .val (.int c), .unset, .unset, .unset, .unset, .unset, .unset] [])) _
      refine XS.iconst X104.here hx rfl (hb hby at_36) ?_
      show Steps p.tables e below (T104.setTop (mkF m 37 #[.val (.int p1), .val (.int p2), .val (.int p3), .val (.int p4), .val (.ref mg), .val (.int kk), .val (.int c), .unset, .unset, .unset, .unset, .unset, .unset] [(.int (0 : Int32))])) _
      exact k
    · skip
      refine ⟨(1 : Int32), trivial, fun tg_ k => go108 tg_ ?_⟩
      show Steps p.tables e below (T104.setTop (mkF m 26 #[.val (.int p1), .val (.int p2), .val (.int p3), .val (.int p4), .val (.ref mg), .val (.int kk), .val (.int c), .unset, .unset, .unset, .unset, .unset, .unset] [])) _
      refine XS.iloadN X104.here hx rfl (hb hby at_26) rfl ?_
      show Steps p.tables e below (T104.setTop (mkF m 27 #[.val (.int p1), .val (.int p2), .val (.int p3), .val (.int p4), .val (.ref mg), .val (.int kk), .val (.int c), .unset, .unset, .unset, .unset, .unset, .unset] [(.int p4)])) _
      refine XS.iconst X104.here hx rfl (hb hby at_27) ?_
      show Steps p.tables e below (T104.setTop (mkF m 28 #[.val (.int p1), .val (.int p2), .val (.int p3), .val (.int p4), .val (.ref mg), .val (.int kk), .val (.int c), .unset, .unset, .unset, .unset, .unset, .unset] [(.int (1 : Int32)), (.int p4)])) _
      refine XS.iand X104.here hx rfl (hb hby at_28) rfl ?_
      show Steps p.tables e below (T104.setTop (mkF m 29 #[.val (.int p1), .val (.int p2), .val (.int p3), .val (.int p4), .val (.ref mg), .val (.int kk), .val (.int c), .unset, .unset, .unset, .unset, .unset, .unset] [(.int (p4 &&& (1 : Int32)))])) _
      refine XS.ifNo X104.here hx rfl (hb hby at_29) rfl ((if0 _ _).trans (feq (hq : ¬ ((p4 &&& (1 : Int32)) = (0 : Int32)))).1) ?_
      show Steps p.tables e below (T104.setTop (mkF m 32 #[.val (.int p1), .val (.int p2), .val (.int p3), .val (.int p4), .val (.ref mg), .val (.int kk), .val (.int c), .unset, .unset, .unset, .unset, .unset, .unset] [])) _
      refine XS.iconst X104.here hx rfl (hb hby at_32) ?_
      show Steps p.tables e below (T104.setTop (mkF m 33 #[.val (.int p1), .val (.int p2), .val (.int p3), .val (.int p4), .val (.ref mg), .val (.int kk), .val (.int c), .unset, .unset, .unset, .unset, .unset, .unset] [(.int (1 : Int32))])) _
      refine XS.goto X104.here hx rfl (pc0 := 33) (pc' := 37) rfl (hb hby at_33) (by decide) (by decide) ?_
      show Steps p.tables e below (T104.setTop (mkF m 37 #[.val (.int p1), .val (.int p2), .val (.int p3), .val (.int p4), .val (.ref mg), .val (.int kk), .val (.int c), .unset, .unset, .unset, .unset, .unset, .unset] [(.int (1 : Int32))])) _
      exact k
  have go110 : ∀ tg_, Steps p.tables e below (T104.setTop (mkF m 42 #[.val (.int p1), .val (.int p2), .val (.int p3), .val (.int p4), .val (.ref mg), .val (.int kk), .val (.int c), .val (.int mu), .unset, .unset, .unset, .unset, .unset] [(.int ((p4.toUInt32 >>> ((1 : Int32) &&& 31).toUInt32).toInt32))])) tg_ → Steps p.tables e below (s₁.setTop (entryFrame m #[(.int p1), (.int p2), (.int p3), (.int p4)] maxLocals)) tg_ := fun tg_ k => go109 tg_ (by
      show Steps p.tables e below (T104.setTop (mkF m 37 #[.val (.int p1), .val (.int p2), .val (.int p3), .val (.int p4), .val (.ref mg), .val (.int kk), .val (.int c), .unset, .unset, .unset, .unset, .unset, .unset] [(.int mu)])) _
      refine XS.istore X104.here hx rfl (hb hby at_37) rfl (l' := #[.val (.int p1), .val (.int p2), .val (.int p3), .val (.int p4), .val (.ref mg), .val (.int kk), .val (.int c), .val (.int mu), .unset, .unset, .unset, .unset, .unset]) rfl ?_
      show Steps p.tables e below (T104.setTop (mkF m 39 #[.val (.int p1), .val (.int p2), .val (.int p3), .val (.int p4), .val (.ref mg), .val (.int kk), .val (.int c), .val (.int mu), .unset, .unset, .unset, .unset, .unset] [])) _
      refine XS.iloadN X104.here hx rfl (hb hby at_39) rfl ?_
      show Steps p.tables e below (T104.setTop (mkF m 40 #[.val (.int p1), .val (.int p2), .val (.int p3), .val (.int p4), .val (.ref mg), .val (.int kk), .val (.int c), .val (.int mu), .unset, .unset, .unset, .unset, .unset] [(.int p4)])) _
      refine XS.iconst X104.here hx rfl (hb hby at_40) ?_
      show Steps p.tables e below (T104.setTop (mkF m 41 #[.val (.int p1), .val (.int p2), .val (.int p3), .val (.int p4), .val (.ref mg), .val (.int kk), .val (.int c), .val (.int mu), .unset, .unset, .unset, .unset, .unset] [(.int (1 : Int32)), (.int p4)])) _
      refine XS.iushr X104.here hx rfl (hb hby at_41) rfl ?_
      show Steps p.tables e below (T104.setTop (mkF m 42 #[.val (.int p1), .val (.int p2), .val (.int p3), .val (.int p4), .val (.ref mg), .val (.int kk), .val (.int c), .val (.int mu), .unset, .unset, .unset, .unset, .unset] [(.int ((p4.toUInt32 >>> ((1 : Int32) &&& 31).toUInt32).toInt32))])) _
      exact k)
  obtain ⟨sel, rsel, e_sel⟩ : ∃ z : Int32, (True) ∧ ((p4.toUInt32 >>> ((1 : Int32) &&& 31).toUInt32).toInt32) = z := ⟨_, trivial, rfl⟩
  rw [e_sel] at go110
  have go111 : ∀ tg_, Steps p.tables e below (T104.setTop (mkF m 46 #[.val (.int p1), .val (.int p2), .val (.int p3), .val (.int p4), .val (.ref mg), .val (.int kk), .val (.int c), .val (.int mu), .val (.int sel), .unset, .unset, .unset, .unset] [(.int kk)])) tg_ → Steps p.tables e below (s₁.setTop (entryFrame m #[(.int p1), (.int p2), (.int p3), (.int p4)] maxLocals)) tg_ := fun tg_ k => go110 tg_ (by
      show Steps p.tables e below (T104.setTop (mkF m 42 #[.val (.int p1), .val (.int p2), .val (.int p3), .val (.int p4), .val (.ref mg), .val (.int kk), .val (.int c), .val (.int mu), .unset, .unset, .unset, .unset, .unset] [(.int sel)])) _
      refine XS.istore X104.here hx rfl (hb hby at_42) rfl (l' := #[.val (.int p1), .val (.int p2), .val (.int p3), .val (.int p4), .val (.ref mg), .val (.int kk), .val (.int c), .val (.int mu), .val (.int sel), .unset, .unset, .unset, .unset]) rfl ?_
      show Steps p.tables e below (T104.setTop (mkF m 44 #[.val (.int p1), .val (.int p2), .val (.int p3), .val (.int p4), .val (.ref mg), .val (.int kk), .val (.int c), .val (.int mu), .val (.int sel), .unset, .unset, .unset, .unset] [])) _
      refine XS.iload X104.here hx rfl (hb hby at_44) rfl ?_
      exact k)
  by_cases ek0 : kk = 0
  · have ek := ek0
    have Z_112 := (Nat.le_trans (Nat.le_trans Z0 K101.1) K104.1)
    obtain ⟨_, _, ⟨T113, L113, kk113, nn113⟩, -, X113, ⟨Lc113, hQ113, l113, y113, z113⟩, st113⟩ := Jvm.LawKit.callS X104 hx (y := (⟨"com/example/tramway/tramway/poa/TramwayPoaManagerIs_aPinLaw", "mgr", "()[C"⟩ : MethodName)) hown (mvT hZ (hw _ (List.mem_of_getElem? (i := 15) rfl))) (mvT hZ (hw _ (List.mem_of_getElem? (i := 16) rfl))) (mvT hZ (hw _ (List.mem_of_getElem? (i := 17) rfl))) (mvT hZ (hw _ (List.mem_of_getElem? (i := 18) rfl))) (by decide) (backOf (W := 0) (rm_mgr l Z a0 hw [] T104.heap n0 Z_112) hZ (hw _ (List.mem_of_getElem? (i := 18) rfl)) (hw _ (List.mem_of_getElem? (i := 17) rfl)) (by decide) (by decide)) (g := (mkF m 49 #[.val (.int p1), .val (.int p2), .val (.int p3), .val (.int p4), .val (.ref mg), .val (.int kk), .val (.int c), .val (.int mu), .val (.int sel), .unset, .unset, .unset, .unset] [])) rfl (by rw [hml]; rfl) (argsL := []) (rest := []) (lenOf pd____C rfl) rfl (by show 2 * 0 + _ ≤ _; exact Nat.le_of_eq rfl) (hb hby at_49) (fun _ _ => ⟨rfl, rfl, Nat.le_of_ble_eq_true rfl, Nat.le_of_ble_eq_true rfl⟩)
    dsimp only [Pt.U, Pt.locs, Pt.cells, Pt.slots] at X113 l113 y113 z113 st113 hQ113
    subst l113 y113 z113
    obtain ⟨ar113, ka113, rfl, Nq113, K113, g_ar113, le113, V_ar113⟩ := hQ113
    have N113 := Fr.app N104 Nq113
    have hs114 : ∀ sx_ ∈ ([] : List Addr), Safe Z own_EL s.vm T104.heap sx_ := all0
    have R114 := R105.trans (CHr.keep K113 hs114 R105.1)
    have lt_ar113 := V_ar113.lt
    have lt_mg_115 := (Nat.lt_of_lt_of_le lt_mg K104.1)
    have ne_mg_ar113 : mg ≠ ar113 := Nat.ne_of_lt (Nat.lt_of_lt_of_le lt_mg_115 le113)
    have go116 : ∀ tg_, Steps p.tables e below (T113.setTop (mkF m 61 #[.val (.int p1), .val (.int p2), .val (.int p3), .val (.int p4), .val (.ref mg), .val (.int kk), .val (.int c), .val (.int mu), .val (.int sel), .val (.ref ar113), .unset, .unset, .unset] [(.int ((p2 &&& (2147483647 : Int32)) % (41 : Int32)))])) tg_ → Steps p.tables e below (s₁.setTop (entryFrame m #[(.int p1), (.int p2), (.int p3), (.int p4)] maxLocals)) tg_ := fun tg_ k => go111 tg_ (by
        show Steps p.tables e below (T104.setTop (mkF m 46 #[.val (.int p1), .val (.int p2), .val (.int p3), .val (.int p4), .val (.ref mg), .val (.int kk), .val (.int c), .val (.int mu), .val (.int sel), .unset, .unset, .unset, .unset] [(.int kk)])) _
        refine XS.ifNo X104.here hx rfl (hb hby at_46) rfl ((if0 _ _).trans (teq (ek : kk = (0 : Int32))).2) ?_
        show Steps p.tables e below (T104.setTop (mkF m 49 #[.val (.int p1), .val (.int p2), .val (.int p3), .val (.int p4), .val (.ref mg), .val (.int kk), .val (.int c), .val (.int mu), .val (.int sel), .unset, .unset, .unset, .unset] [])) _
        refine st113 _ ?_
        show Steps p.tables e below (T113.setTop (mkF m 52 #[.val (.int p1), .val (.int p2), .val (.int p3), .val (.int p4), .val (.ref mg), .val (.int kk), .val (.int c), .val (.int mu), .val (.int sel), .unset, .unset, .unset, .unset] [(.ref ar113)])) _
        refine XS.astore X113.here hx rfl (hb hby at_52) rfl rfl (l' := #[.val (.int p1), .val (.int p2), .val (.int p3), .val (.int p4), .val (.ref mg), .val (.int kk), .val (.int c), .val (.int mu), .val (.int sel), .val (.ref ar113), .unset, .unset, .unset]) rfl ?_
        show Steps p.tables e below (T113.setTop (mkF m 54 #[.val (.int p1), .val (.int p2), .val (.int p3), .val (.int p4), .val (.ref mg), .val (.int kk), .val (.int c), .val (.int mu), .val (.int sel), .val (.ref ar113), .unset, .unset, .unset] [])) _
        refine XS.iloadN X113.here hx rfl (hb hby at_54) rfl ?_
        show Steps p.tables e below (T113.setTop (mkF m 55 #[.val (.int p1), .val (.int p2), .val (.int p3), .val (.int p4), .val (.ref mg), .val (.int kk), .val (.int c), .val (.int mu), .val (.int sel), .val (.ref ar113), .unset, .unset, .unset] [(.int p2)])) _
        refine X113.ldcInt hx hown (mvT hZ (hw _ (List.mem_of_getElem? (i := 14) rfl))) (g := (mkF m 55 #[.val (.int p1), .val (.int p2), .val (.int p3), .val (.int p4), .val (.ref mg), .val (.int kk), .val (.int c), .val (.int mu), .val (.int sel), .val (.ref ar113), .unset, .unset, .unset] [(.int p2)])) rfl (hb hby at_55) _ ?_
        show Steps p.tables e below (T113.setTop (mkF m 57 #[.val (.int p1), .val (.int p2), .val (.int p3), .val (.int p4), .val (.ref mg), .val (.int kk), .val (.int c), .val (.int mu), .val (.int sel), .val (.ref ar113), .unset, .unset, .unset] [(.int (2147483647 : Int32)), (.int p2)])) _
        refine XS.iand X113.here hx rfl (hb hby at_57) rfl ?_
        show Steps p.tables e below (T113.setTop (mkF m 58 #[.val (.int p1), .val (.int p2), .val (.int p3), .val (.int p4), .val (.ref mg), .val (.int kk), .val (.int c), .val (.int mu), .val (.int sel), .val (.ref ar113), .unset, .unset, .unset] [(.int (p2 &&& (2147483647 : Int32)))])) _
        refine XS.bipush X113.here hx rfl (hb hby at_58) ?_
        show Steps p.tables e below (T113.setTop (mkF m 60 #[.val (.int p1), .val (.int p2), .val (.int p3), .val (.int p4), .val (.ref mg), .val (.int kk), .val (.int c), .val (.int mu), .val (.int sel), .val (.ref ar113), .unset, .unset, .unset] [(.int (41 : Int32)), (.int (p2 &&& (2147483647 : Int32)))])) _
        refine Jvm.RoadKit.iremM X113 hx rfl (hb hby at_60) rfl (by decide) ?_
        show Steps p.tables e below (T113.setTop (mkF m 61 #[.val (.int p1), .val (.int p2), .val (.int p3), .val (.int p4), .val (.ref mg), .val (.int kk), .val (.int c), .val (.int mu), .val (.int sel), .val (.ref ar113), .unset, .unset, .unset] [(.int ((p2 &&& (2147483647 : Int32)) % (41 : Int32)))])) _
        exact k)
    obtain ⟨pN, hpN, e_p⟩ := own_idx41 p2
    rw [e_p] at go116
    obtain ⟨cl117, Ar117, q117, S117, M117, Hh117, G117⟩ := id V_ar113
    have hin117 : ¬ ((Int32.ofNat pN) < 0 ∨ cl117.slots.size ≤ ((Int32.ofNat pN)).toNatClampNeg) := inb_of S117 ⟨own_nn (by omega), own_lt32 (b := 41) hpN (by decide)⟩
    have hat117 : cl117.slots[((Int32.ofNat pN)).toNatClampNeg]? = some (.int (own_L0.getD pN 0)) := Has.at Hh117 hin117 (by rw [own_clamp (by omega)]; exact own_getv _ _ (by simp [own_L0]; omega))
    have go118 : ∀ tg_, Steps p.tables e below (T113.setTop (mkF m 72 #[.val (.int p1), .val (.int p2), .val (.int p3), .val (.int p4), .val (.ref mg), .val (.int kk), .val (.int c), .val (.int mu), .val (.int sel), .val (.ref ar113), .val (.int (Int32.ofNat pN)), .val (.int (own_L0.getD pN 0)), .unset] [(.int mu)])) tg_ → Steps p.tables e below (s₁.setTop (entryFrame m #[(.int p1), (.int p2), (.int p3), (.int p4)] maxLocals)) tg_ := fun tg_ k => go116 tg_ (by
        show Steps p.tables e below (T113.setTop (mkF m 61 #[.val (.int p1), .val (.int p2), .val (.int p3), .val (.int p4), .val (.ref mg), .val (.int kk), .val (.int c), .val (.int mu), .val (.int sel), .val (.ref ar113), .unset, .unset, .unset] [(.int (Int32.ofNat pN))])) _
        refine XS.istore X113.here hx rfl (hb hby at_61) rfl (l' := #[.val (.int p1), .val (.int p2), .val (.int p3), .val (.int p4), .val (.ref mg), .val (.int kk), .val (.int c), .val (.int mu), .val (.int sel), .val (.ref ar113), .val (.int (Int32.ofNat pN)), .unset, .unset]) rfl ?_
        show Steps p.tables e below (T113.setTop (mkF m 63 #[.val (.int p1), .val (.int p2), .val (.int p3), .val (.int p4), .val (.ref mg), .val (.int kk), .val (.int c), .val (.int mu), .val (.int sel), .val (.ref ar113), .val (.int (Int32.ofNat pN)), .unset, .unset] [])) _
        refine XS.aload X113.here hx rfl (hb hby at_63) rfl rfl ?_
        show Steps p.tables e below (T113.setTop (mkF m 65 #[.val (.int p1), .val (.int p2), .val (.int p3), .val (.int p4), .val (.ref mg), .val (.int kk), .val (.int c), .val (.int mu), .val (.int sel), .val (.ref ar113), .val (.int (Int32.ofNat pN)), .unset, .unset] [(.ref ar113)])) _
        refine XS.iload X113.here hx rfl (hb hby at_65) rfl ?_
        show Steps p.tables e below (T113.setTop (mkF m 67 #[.val (.int p1), .val (.int p2), .val (.int p3), .val (.int p4), .val (.ref mg), .val (.int kk), .val (.int c), .val (.int mu), .val (.int sel), .val (.ref ar113), .val (.int (Int32.ofNat pN)), .unset, .unset] [(.int (Int32.ofNat pN)), (.ref ar113)])) _
        refine X113.caload hx (j := (Int32.ofNat pN)) (v := (.int (own_L0.getD pN 0))) Ar117.1 (State.isArrayOf_alike hZ.alike Ar117.2.1) Ar117.2.2 hin117 hat117 (g := (mkF m 67 #[.val (.int p1), .val (.int p2), .val (.int p3), .val (.int p4), .val (.ref mg), .val (.int kk), .val (.int c), .val (.int mu), .val (.int sel), .val (.ref ar113), .val (.int (Int32.ofNat pN)), .unset, .unset] [(.int (Int32.ofNat pN)), (.ref ar113)])) rfl rfl (hb hby at_67) _ ?_
        show Steps p.tables e below (T113.setTop (mkF m 68 #[.val (.int p1), .val (.int p2), .val (.int p3), .val (.int p4), .val (.ref mg), .val (.int kk), .val (.int c), .val (.int mu), .val (.int sel), .val (.ref ar113), .val (.int (Int32.ofNat pN)), .unset, .unset] [(.int (own_L0.getD pN 0))])) _
        refine XS.istore X113.here hx rfl (hb hby at_68) rfl (l' := #[.val (.int p1), .val (.int p2), .val (.int p3), .val (.int p4), .val (.ref mg), .val (.int kk), .val (.int c), .val (.int mu), .val (.int sel), .val (.ref ar113), .val (.int (Int32.ofNat pN)), .val (.int (own_L0.getD pN 0)), .unset]) rfl ?_
        show Steps p.tables e below (T113.setTop (mkF m 70 #[.val (.int p1), .val (.int p2), .val (.int p3), .val (.int p4), .val (.ref mg), .val (.int kk), .val (.int c), .val (.int mu), .val (.int sel), .val (.ref ar113), .val (.int (Int32.ofNat pN)), .val (.int (own_L0.getD pN 0)), .unset] [])) _
        refine XS.iload X113.here hx rfl (hb hby at_70) rfl ?_
        exact k)
    by_cases hm : mu = 0
    · obtain ⟨cl119, Ar119, q119, S119, M119, Hh119, G119⟩ := id V_ar113
      have hin119 : ¬ ((Int32.ofNat pN) < 0 ∨ cl119.slots.size ≤ ((Int32.ofNat pN)).toNatClampNeg) := inb_of S119 ⟨own_nn (by omega), own_lt32 (b := 41) hpN (by decide)⟩
      have hat119 : cl119.slots[((Int32.ofNat pN)).toNatClampNeg]? = some (.int (own_L0.getD pN 0)) := Has.at Hh119 hin119 (by rw [own_clamp (by omega)]; exact own_getv _ _ (by simp [own_L0]; omega))
      obtain ⟨T120, h120, X120, e120, E120, A120, D120, -, st120⟩ := newO X113 hx hZ hown (hw _ (List.mem_of_getElem? (i := 20) rfl)) (hw _ (List.mem_of_getElem? (i := 21) rfl)) (hw _ (List.mem_of_getElem? (i := 22) rfl)) rfl (g := (mkF m 101 #[.val (.int p1), .val (.int p2), .val (.int p3), .val (.int p4), .val (.ref mg), .val (.int kk), .val (.int c), .val (.int mu), .val (.int sel), .val (.ref ar113), .val (.int (Int32.ofNat pN)), .val (.int (own_L0.getD pN 0)), .val (.int (1 : Int32))] [(.ref mg)])) rfl (hb hby at_101) (by decide) (by decide)
      obtain ⟨x, g120⟩ : ∃ z, z = T113.heap.size := ⟨_, rfl⟩
      rw [← g120] at A120 D120 st120
      have Z_121 := (Nat.le_trans Z_112 K113.1)
      have g_x : n0 ≤ x := Nat.le_trans Z_121 (Nat.le_of_eq g120.symm)
      have lt_mg_122 := (Nat.lt_of_lt_of_le lt_mg_115 K113.1)
      have ne_mg_x : mg ≠ x := (Nat.ne_of_lt (Nat.lt_of_lt_of_le lt_mg_122 (Nat.le_of_eq g120.symm)))
      have ne_ar113_x : ar113 ≠ x := (Nat.ne_of_lt (Nat.lt_of_lt_of_le lt_ar113 (Nat.le_of_eq g120.symm)))
      have F_coder_x : Fld Z h120 x "java/lang/String" "coder" "B" (.int (0 : Int32)) := D120 (Or.inr (hw _ (List.mem_of_getElem? (i := 44) rfl))) (ty := .byte) (by decide)
      have F_value_x : Fld Z h120 x "java/lang/String" "value" "[B" .null := D120 (Or.inr (hw _ (List.mem_of_getElem? (i := 46) rfl))) (ty := (.array .byte)) (by decide)
      have K120 : Keep T113.heap h120 [] := (Keep.refl _ []).ext E120
      have hs123 : ∀ sx_ ∈ ([] : List Addr), Safe Z own_EL s.vm T113.heap sx_ := all0
      have R123 := R114.trans (CHr.keep K120 hs123 R114.1)
      have lt_x : x < h120.size := A120.lt
      have sfx : Safe Z own_EL s.vm h120 x := own_safe_null hZ.alike A120 F_value_x (hw _ (List.mem_of_getElem? (i := 21) rfl))
      have Z_124 := (Nat.le_trans Z_121 K120.1)
      have O_125 := (((O_103.keep K104 (allS g_mg all0)).keep K113 all0).keep K120 all0)
      have V_ar113_126 := (V_ar113.keep K120 nin0)
      obtain ⟨_, _, ⟨T127, L127, kk127, nn127⟩, -, X127, ⟨Lc127, hQ127, l127, y127, z127⟩, st127⟩ := X120.specialBack hx (y := (⟨"java/lang/String", "<init>", "([C)V"⟩ : MethodName)) rfl hown (mvT hZ (hw _ (List.mem_of_getElem? (i := 23) rfl))) (mvT hZ (hw _ (List.mem_of_getElem? (i := 24) rfl))) (mvT hZ (hw _ (List.mem_of_getElem? (i := 25) rfl))) (by decide) (StrChars.Road.backV (W := 2) hZ hws (kI := 4) (hw _ (List.mem_of_getElem? (i := 21) rfl)) (cs := own_L0) (bs := (own_L0).map (fun c => c.toInt8.toInt32)) (n := 41) g_x Z_124 A120 F_value_x F_coder_x V_ar113_126 (O2.ext O_125.2) P5 (by simp [own_L0, own_L1]) rfl (by decide) (by decide) own_lr0 rfl (by decide) (by decide)) (g := (mkF m 107 #[.val (.int p1), .val (.int p2), .val (.int p3), .val (.int p4), .val (.ref mg), .val (.int kk), .val (.int c), .val (.int mu), .val (.int sel), .val (.ref ar113), .val (.int (Int32.ofNat pN)), .val (.int (own_L0.getD pN 0)), .val (.int (1 : Int32))] [(.ref ar113), (.ref x), (.ref x), (.ref mg)])) rfl (by rw [hml]; rfl) (Steps.refl _) (a := x) (argsL := [(.ref ar113)]) (rest := [(.ref x), (.ref mg)]) (lenOf pd___C_V rfl) rfl (by show 2 * 0 + _ ≤ _; exact Nat.le_of_eq rfl) (hb hby at_107) (fun _ _ => ⟨rfl, e120, Nat.le_of_ble_eq_true rfl, Nat.le_of_ble_eq_true rfl⟩)
      dsimp only [Pt.U, Pt.locs, Pt.cells, Pt.slots] at X127 l127 y127 z127 st127 hQ127
      subst l127 y127 z127
      obtain ⟨rfl, Nq127, K127, Eq127, Fc127, t127, kb127, g_t127, le127, nx127, Fv127, V_t127⟩ := hQ127
      have N127 := Fr.app N113 Nq127
      have hs128 : ∀ sx_ ∈ ([x] : List Addr), Safe Z own_EL s.vm h120 sx_ := (allS sfx all0)
      have R128 := R123.trans (CHr.keep K127 hs128 R123.1)
      have V_t127_ : Arv Z T127.heap t127 kb127 .byte (Int32.ofNat (own_L0).length) (((own_L0).map (fun c => c.toInt8.toInt32)).map Value.int) (.int (0 : Int32)) := by
        have e : (own_L0).length = 41 := by simp [own_L0, own_L1]
        rw [e]; exact V_t127
      have O_129 := (O_125.keep K127 (allS g_x all0))
      obtain ⟨r, hr1, rt⟩ := rmIA l Z a0 hw [] mg x t127 kb127 own_L0 G1 T127.heap n0 Eq127 Fv127 Fc127 V_t127_ own_lr0 (by simp [own_L0, own_L1, own_L2, own_L3, own_L4]) O2 P5 O_129
      obtain rfl : r = 1 := by
        rcases hr1 with ⟨h, -⟩ | ⟨-, h⟩
        · exact h
        · exact absurd (Or.inl rfl) h
      have E_mg_130 := (((Em104.keep K113).keep K120).keep K127)
      have HK_132 := (Nat.le_trans (Nat.le_trans (Nat.le_trans (Nat.le_trans (Nat.le_trans hk0 K101.1) K104.1) K113.1) K120.1) K127.1)
      have go133 : ∀ tg_, Steps p.tables e below (T127.setTop (mkF m 110 #[.val (.int p1), .val (.int p2), .val (.int p3), .val (.int p4), .val (.ref mg), .val (.int kk), .val (.int c), .val (.int mu), .val (.int sel), .val (.ref ar113), .val (.int (Int32.ofNat pN)), .val (.int (own_L0.getD pN 0)), .val (.int (1 : Int32))] [(.ref x), (.ref mg)])) tg_ → Steps p.tables e below (s₁.setTop (entryFrame m #[(.int p1), (.int p2), (.int p3), (.int p4)] maxLocals)) tg_ := fun tg_ k => go118 tg_ (by
          show Steps p.tables e below (T113.setTop (mkF m 72 #[.val (.int p1), .val (.int p2), .val (.int p3), .val (.int p4), .val (.ref mg), .val (.int kk), .val (.int c), .val (.int mu), .val (.int sel), .val (.ref ar113), .val (.int (Int32.ofNat pN)), .val (.int (own_L0.getD pN 0)), .unset] [(.int mu)])) _
          refine XS.ifYes X113.here hx rfl (pc0 := 72) (pc' := 82) rfl (hb hby at_72) rfl ((if0 _ _).trans (teq (hm : mu = (0 : Int32))).1) (by decide) (by decide) ?_
          show Steps p.tables e below (T113.setTop (mkF m 82 #[.val (.int p1), .val (.int p2), .val (.int p3), .val (.int p4), .val (.ref mg), .val (.int kk), .val (.int c), .val (.int mu), .val (.int sel), .val (.ref ar113), .val (.int (Int32.ofNat pN)), .val (.int (own_L0.getD pN 0)), .unset] [])) _
          refine XS.aload X113.here hx rfl (hb hby at_82) rfl rfl ?_
          show Steps p.tables e below (T113.setTop (mkF m 84 #[.val (.int p1), .val (.int p2), .val (.int p3), .val (.int p4), .val (.ref mg), .val (.int kk), .val (.int c), .val (.int mu), .val (.int sel), .val (.ref ar113), .val (.int (Int32.ofNat pN)), .val (.int (own_L0.getD pN 0)), .unset] [(.ref ar113)])) _
          refine XS.iload X113.here hx rfl (hb hby at_84) rfl ?_
          show Steps p.tables e below (T113.setTop (mkF m 86 #[.val (.int p1), .val (.int p2), .val (.int p3), .val (.int p4), .val (.ref mg), .val (.int kk), .val (.int c), .val (.int mu), .val (.int sel), .val (.ref ar113), .val (.int (Int32.ofNat pN)), .val (.int (own_L0.getD pN 0)), .unset] [(.int (Int32.ofNat pN)), (.ref ar113)])) _
          refine X113.caload hx (j := (Int32.ofNat pN)) (v := (.int (own_L0.getD pN 0))) Ar119.1 (State.isArrayOf_alike hZ.alike Ar119.2.1) Ar119.2.2 hin119 hat119 (g := (mkF m 86 #[.val (.int p1), .val (.int p2), .val (.int p3), .val (.int p4), .val (.ref mg), .val (.int kk), .val (.int c), .val (.int mu), .val (.int sel), .val (.ref ar113), .val (.int (Int32.ofNat pN)), .val (.int (own_L0.getD pN 0)), .unset] [(.int (Int32.ofNat pN)), (.ref ar113)])) rfl rfl (hb hby at_86) _ ?_
          show Steps p.tables e below (T113.setTop (mkF m 87 #[.val (.int p1), .val (.int p2), .val (.int p3), .val (.int p4), .val (.ref mg), .val (.int kk), .val (.int c), .val (.int mu), .val (.int sel), .val (.ref ar113), .val (.int (Int32.ofNat pN)), .val (.int (own_L0.getD pN 0)), .unset] [(.int (own_L0.getD pN 0))])) _
          refine XS.iload X113.here hx rfl (hb hby at_87) rfl ?_
          show Steps p.tables e below (T113.setTop (mkF m 89 #[.val (.int p1), .val (.int p2), .val (.int p3), .val (.int p4), .val (.ref mg), .val (.int kk), .val (.int c), .val (.int mu), .val (.int sel), .val (.ref ar113), .val (.int (Int32.ofNat pN)), .val (.int (own_L0.getD pN 0)), .unset] [(.int (own_L0.getD pN 0)), (.int (own_L0.getD pN 0))])) _
          refine XS.icmpNo X113.here hx rfl (hb hby at_89) rfl (teq (rfl : (own_L0.getD pN 0) = (own_L0.getD pN 0))).2 ?_
          show Steps p.tables e below (T113.setTop (mkF m 92 #[.val (.int p1), .val (.int p2), .val (.int p3), .val (.int p4), .val (.ref mg), .val (.int kk), .val (.int c), .val (.int mu), .val (.int sel), .val (.ref ar113), .val (.int (Int32.ofNat pN)), .val (.int (own_L0.getD pN 0)), .unset] [])) _
          refine XS.iconst X113.here hx rfl (hb hby at_92) ?_
          show Steps p.tables e below (T113.setTop (mkF m 93 #[.val (.int p1), .val (.int p2), .val (.int p3), .val (.int p4), .val (.ref mg), .val (.int kk), .val (.int c), .val (.int mu), .val (.int sel), .val (.ref ar113), .val (.int (Int32.ofNat pN)), .val (.int (own_L0.getD pN 0)), .unset] [(.int (1 : Int32))])) _
          refine XS.goto X113.here hx rfl (pc0 := 93) (pc' := 97) rfl (hb hby at_93) (by decide) (by decide) ?_
          show Steps p.tables e below (T113.setTop (mkF m 97 #[.val (.int p1), .val (.int p2), .val (.int p3), .val (.int p4), .val (.ref mg), .val (.int kk), .val (.int c), .val (.int mu), .val (.int sel), .val (.ref ar113), .val (.int (Int32.ofNat pN)), .val (.int (own_L0.getD pN 0)), .unset] [(.int (1 : Int32))])) _
          refine XS.istore X113.here hx rfl (hb hby at_97) rfl (l' := #[.val (.int p1), .val (.int p2), .val (.int p3), .val (.int p4), .val (.ref mg), .val (.int kk), .val (.int c), .val (.int mu), .val (.int sel), .val (.ref ar113), .val (.int (Int32.ofNat pN)), .val (.int (own_L0.getD pN 0)), .val (.int (1 : Int32))]) rfl ?_
          show Steps p.tables e below (T113.setTop (mkF m 99 #[.val (.int p1), .val (.int p2), .val (.int p3), .val (.int p4), .val (.ref mg), .val (.int kk), .val (.int c), .val (.int mu), .val (.int sel), .val (.ref ar113), .val (.int (Int32.ofNat pN)), .val (.int (own_L0.getD pN 0)), .val (.int (1 : Int32))] [])) _
          refine XS.aload X113.here hx rfl (hb hby at_99) rfl rfl ?_
          show Steps p.tables e below (T113.setTop (mkF m 101 #[.val (.int p1), .val (.int p2), .val (.int p3), .val (.int p4), .val (.ref mg), .val (.int kk), .val (.int c), .val (.int mu), .val (.int sel), .val (.ref ar113), .val (.int (Int32.ofNat pN)), .val (.int (own_L0.getD pN 0)), .val (.int (1 : Int32))] [(.ref mg)])) _
          refine st120 _ ?_
          show Steps p.tables e below (T120.setTop (mkF m 104 #[.val (.int p1), .val (.int p2), .val (.int p3), .val (.int p4), .val (.ref mg), .val (.int kk), .val (.int c), .val (.int mu), .val (.int sel), .val (.ref ar113), .val (.int (Int32.ofNat pN)), .val (.int (own_L0.getD pN 0)), .val (.int (1 : Int32))] [(.ref x), (.ref mg)])) _
          refine XS.dup X120.here hx rfl (hb hby at_104) rfl rfl ?_
          show Steps p.tables e below (T120.setTop (mkF m 105 #[.val (.int p1), .val (.int p2), .val (.int p3), .val (.int p4), .val (.ref mg), .val (.int kk), .val (.int c), .val (.int mu), .val (.int sel), .val (.ref ar113), .val (.int (Int32.ofNat pN)), .val (.int (own_L0.getD pN 0)), .val (.int (1 : Int32))] [(.ref x), (.ref x), (.ref mg)])) _
          refine XS.aload X120.here hx rfl (hb hby at_105) rfl rfl ?_
          show Steps p.tables e below (T120.setTop (mkF m 107 #[.val (.int p1), .val (.int p2), .val (.int p3), .val (.int p4), .val (.ref mg), .val (.int kk), .val (.int c), .val (.int mu), .val (.int sel), .val (.ref ar113), .val (.int (Int32.ofNat pN)), .val (.int (own_L0.getD pN 0)), .val (.int (1 : Int32))] [(.ref ar113), (.ref x), (.ref x), (.ref mg)])) _
          refine st127.trans ?_
          exact k)
      obtain ⟨cq131, kq131, q131a, q131b, q131c⟩ := isOf hZ rfl E_mg_130
      obtain ⟨_, _, ⟨T131, L131, kk131, nn131⟩, -, Y131, hT131, gr131, ⟨Lc131, hQ131, l131, y131, z131, C131⟩, st131⟩ := X127.virtualBackS hx (y := (⟨"com/example/tramway/tramway/poa/TramwayPoaManager", "_is_a", "(Ljava/lang/String;)Z"⟩ : MethodName)) (z := (⟨"com/example/tramway/tramway/poa/TramwayPoaManager", "_is_a", "(Ljava/lang/String;)Z"⟩ : MethodName)) hown (mvT hZ (hw _ (List.mem_of_getElem? (i := 47) rfl))) (mvT hZ (hw _ (List.mem_of_getElem? (i := 48) rfl))) (notFace_of_selects (args := #[]) (mvT hZ (hw _ (List.mem_of_getElem? (i := 50) rfl)))) (mvT hZ (hw _ (List.mem_of_getElem? (i := 50) rfl))) (mvT hZ (hw _ (List.mem_of_getElem? (i := 49) rfl))) (by decide) (backOfSH (W := 0) (rt) hZ (hw _ (List.mem_of_getElem? (i := 51) rfl)) (hw _ (List.mem_of_getElem? (i := 2) rfl)) (by decide) (by decide) hEL R128.1) q131a q131c (g := (mkF m 110 #[.val (.int p1), .val (.int p2), .val (.int p3), .val (.int p4), .val (.ref mg), .val (.int kk), .val (.int c), .val (.int mu), .val (.int sel), .val (.ref ar113), .val (.int (Int32.ofNat pN)), .val (.int (own_L0.getD pN 0)), .val (.int (1 : Int32))] [(.ref x), (.ref mg)])) rfl (by rw [hml]; rfl) (Steps.refl _) (argsL := [(.ref x)]) (rest := []) (lenOf pd__Ljava_lang_String__Z rfl) rfl (by show 2 * 0 + _ ≤ _; exact Nat.le_of_eq rfl) (hb hby at_110) (fun _ _ => ⟨rfl, rfl, Nat.le_of_ble_eq_true rfl, Nat.le_of_ble_eq_true rfl⟩)
      dsimp only [Pt.U, Pt.locs, Pt.cells, Pt.slots] at Y131 hT131 gr131 l131 y131 z131 C131 st131 hQ131
      subst l131 y131 z131
      obtain ⟨X131, hS131, hZ, hown⟩ := rebS hS0 HK_132 Y131 hT131 gr131 hZ hown
      have hk131 := Nat.le_refl T131.heap.size
      obtain ⟨rfl, Nq131, K131⟩ := hQ131
      have N131 := Fr.app N127 Nq131
      have R134 := R128.trans C131
      obtain ⟨fs, hr, hrun, hended, hRE⟩ := X131.leaveW hS131 hk131 (v := some (.int (1 : Int32))) (fun h => by rw [Bd.returns] at h; cases h)
      refine ⟨_, _, go133 _ ?_, hrun, hended, _, _, rfl, ?_, ?_, hRE.1, hRE.2.1, hRE.2.2.1, hRE.2.2.2.mono (by decide) (by decide)⟩
      · show Steps p.tables e below (T127.setTop (mkF m 110 #[.val (.int p1), .val (.int p2), .val (.int p3), .val (.int p4), .val (.ref mg), .val (.int kk), .val (.int c), .val (.int mu), .val (.int sel), .val (.ref ar113), .val (.int (Int32.ofNat pN)), .val (.int (own_L0.getD pN 0)), .val (.int (1 : Int32))] [(.ref x), (.ref mg)])) _
        refine st131.trans ?_
        show Steps p.tables e below (T131.setTop (mkF m 113 #[.val (.int p1), .val (.int p2), .val (.int p3), .val (.int p4), .val (.ref mg), .val (.int kk), .val (.int c), .val (.int mu), .val (.int sel), .val (.ref ar113), .val (.int (Int32.ofNat pN)), .val (.int (own_L0.getD pN 0)), .val (.int (1 : Int32))] [(.int (1 : Int32))])) _
        refine XS.iload X131.here hx rfl (hb hby at_113) rfl ?_
        show Steps p.tables e below (T131.setTop (mkF m 115 #[.val (.int p1), .val (.int p2), .val (.int p3), .val (.int p4), .val (.ref mg), .val (.int kk), .val (.int c), .val (.int mu), .val (.int sel), .val (.ref ar113), .val (.int (Int32.ofNat pN)), .val (.int (own_L0.getD pN 0)), .val (.int (1 : Int32))] [(.int (1 : Int32)), (.int (1 : Int32))])) _
        refine XS.icmpNo X131.here hx rfl (hb hby at_115) rfl (teq (rfl : (1 : Int32) = (1 : Int32))).2 ?_
        show Steps p.tables e below (T131.setTop (mkF m 118 #[.val (.int p1), .val (.int p2), .val (.int p3), .val (.int p4), .val (.ref mg), .val (.int kk), .val (.int c), .val (.int mu), .val (.int sel), .val (.ref ar113), .val (.int (Int32.ofNat pN)), .val (.int (own_L0.getD pN 0)), .val (.int (1 : Int32))] [])) _
        refine XS.iconst X131.here hx rfl (hb hby at_118) ?_
        show Steps p.tables e below (T131.setTop (mkF m 119 #[.val (.int p1), .val (.int p2), .val (.int p3), .val (.int p4), .val (.ref mg), .val (.int kk), .val (.int c), .val (.int mu), .val (.int sel), .val (.ref ar113), .val (.int (Int32.ofNat pN)), .val (.int (own_L0.getD pN 0)), .val (.int (1 : Int32))] [(.int (1 : Int32))])) _
        refine XS.goto X131.here hx rfl (pc0 := 119) (pc' := 123) rfl (hb hby at_119) (by decide) (by decide) ?_
        show Steps p.tables e below (T131.setTop (mkF m 123 #[.val (.int p1), .val (.int p2), .val (.int p3), .val (.int p4), .val (.ref mg), .val (.int kk), .val (.int c), .val (.int mu), .val (.int sel), .val (.ref ar113), .val (.int (Int32.ofNat pN)), .val (.int (own_L0.getD pN 0)), .val (.int (1 : Int32))] [(.int (1 : Int32))])) _
        exact retN X131 hx (t := .boolean) Bd.returns (by simp) (hb hby at_123) hr
      · show Q0 h0 n0 _ T131.heap _
        exact ⟨rfl, N131⟩
      · show CHr Z own_EL s.vm s.heap T131.vm T131.heap
        rw [hh]
        exact R134.trans (CHv.at X131 hZ hEL R134.1)
    · by_cases hs : c = own_L0.getD pN 0
      · obtain ⟨cl135, Ar135, q135, S135, M135, Hh135, G135⟩ := id V_ar113
        obtain ⟨T135, h135, X135, e135, W135, st135⟩ := stC X113 hx hZ rfl Ar135 (j := (Int32.ofNat pN)) (inb_of S135 ⟨own_nn (by omega), own_lt32 (b := 41) hpN (by decide)⟩) (g := (mkF m 81 #[.val (.int p1), .val (.int p2), .val (.int p3), .val (.int p4), .val (.ref mg), .val (.int kk), .val (.int c), .val (.int mu), .val (.int sel), .val (.ref ar113), .val (.int (Int32.ofNat pN)), .val (.int (own_L0.getD pN 0)), .unset] [(.int c), (.int (Int32.ofNat pN)), (.ref ar113)])) rfl rfl (hb hby at_81)
        have V_ar113_135 : Arv Z h135 ar113 ka113 .char (41 : Int32) ((own_L0.set pN c).map Value.int) (.int (0 : Int32)) := (own_setv own_L0 pN c rc.2.2) ▸ (Arv.set Ar135 q135 S135 M135 Hh135 G135 (fits_nar_char _) W135 pN (own_clamp (by omega)) (by simp [own_L0]; omega))
        have K135 : Keep T113.heap h135 [ar113] := Keep.of_wr W135
        have hs136 : ∀ sx_ ∈ ([ar113] : List Addr), Safe Z own_EL s.vm T113.heap sx_ := (allS (Safe.arr hZ.alike Ar135 (by decide)) all0)
        have R136 := R114.trans (CHr.keep K135 hs136 R114.1)
        have N135 := Fr.snoc X135 N113 g_ar113
        obtain ⟨cl137, Ar137, q137, S137, M137, Hh137, G137⟩ := id V_ar113_135
        have hin137 : ¬ ((Int32.ofNat pN) < 0 ∨ cl137.slots.size ≤ ((Int32.ofNat pN)).toNatClampNeg) := inb_of S137 ⟨own_nn (by omega), own_lt32 (b := 41) hpN (by decide)⟩
        have hat137 : cl137.slots[((Int32.ofNat pN)).toNatClampNeg]? = some (.int c) := Has.at Hh137 hin137 (by rw [own_clamp (by omega)]; exact own_getset _ _ _ (by simp [own_L0]; omega))
        obtain ⟨T138, h138, X138, e138, E138, A138, D138, -, st138⟩ := newO X135 hx hZ hown (hw _ (List.mem_of_getElem? (i := 20) rfl)) (hw _ (List.mem_of_getElem? (i := 21) rfl)) (hw _ (List.mem_of_getElem? (i := 22) rfl)) e135 (g := (mkF m 101 #[.val (.int p1), .val (.int p2), .val (.int p3), .val (.int p4), .val (.ref mg), .val (.int kk), .val (.int c), .val (.int mu), .val (.int sel), .val (.ref ar113), .val (.int (Int32.ofNat pN)), .val (.int (own_L0.getD pN 0)), .val (.int (1 : Int32))] [(.ref mg)])) rfl (hb hby at_101) (by decide) (by decide)
        obtain ⟨x, g138⟩ : ∃ z, z = h135.size := ⟨_, rfl⟩
        rw [← g138] at A138 D138 st138
        have Z_139 := (Nat.le_trans (Nat.le_trans Z_112 K113.1) K135.1)
        have g_x : n0 ≤ x := Nat.le_trans Z_139 (Nat.le_of_eq g138.symm)
        have lt_mg_140 := (Nat.lt_of_lt_of_le (Nat.lt_of_lt_of_le lt_mg_115 K113.1) K135.1)
        have ne_mg_x : mg ≠ x := (Nat.ne_of_lt (Nat.lt_of_lt_of_le lt_mg_140 (Nat.le_of_eq g138.symm)))
        have lt_ar113_141 := (Nat.lt_of_lt_of_le lt_ar113 K135.1)
        have ne_ar113_x : ar113 ≠ x := (Nat.ne_of_lt (Nat.lt_of_lt_of_le lt_ar113_141 (Nat.le_of_eq g138.symm)))
        have F_coder_x : Fld Z h138 x "java/lang/String" "coder" "B" (.int (0 : Int32)) := D138 (Or.inr (hw _ (List.mem_of_getElem? (i := 44) rfl))) (ty := .byte) (by decide)
        have F_value_x : Fld Z h138 x "java/lang/String" "value" "[B" .null := D138 (Or.inr (hw _ (List.mem_of_getElem? (i := 46) rfl))) (ty := (.array .byte)) (by decide)
        have K138 : Keep h135 h138 [] := (Keep.refl _ []).ext E138
        have hs142 : ∀ sx_ ∈ ([] : List Addr), Safe Z own_EL s.vm h135 sx_ := all0
        have R142 := R136.trans (CHr.keep K138 hs142 R136.1)
        have lt_x : x < h138.size := A138.lt
        have sfx : Safe Z own_EL s.vm h138 x := own_safe_null hZ.alike A138 F_value_x (hw _ (List.mem_of_getElem? (i := 21) rfl))
        have Z_143 := (Nat.le_trans Z_139 K138.1)
        have O_144 := ((((O_103.keep K104 (allS g_mg all0)).keep K113 all0).keep K135 (allS g_ar113 all0)).keep K138 all0)
        have V_ar113_145 := (V_ar113_135.keep K138 nin0)
        obtain ⟨_, _, ⟨T146, L146, kk146, nn146⟩, -, X146, ⟨Lc146, hQ146, l146, y146, z146⟩, st146⟩ := X138.specialBack hx (y := (⟨"java/lang/String", "<init>", "([C)V"⟩ : MethodName)) rfl hown (mvT hZ (hw _ (List.mem_of_getElem? (i := 23) rfl))) (mvT hZ (hw _ (List.mem_of_getElem? (i := 24) rfl))) (mvT hZ (hw _ (List.mem_of_getElem? (i := 25) rfl))) (by decide) (StrChars.Road.backV (W := 2) hZ hws (kI := 4) (hw _ (List.mem_of_getElem? (i := 21) rfl)) (cs := (own_L0.set pN c)) (bs := ((own_L0.set pN c)).map (fun c => c.toInt8.toInt32)) (n := 41) g_x Z_143 A138 F_value_x F_coder_x V_ar113_145 (O2.ext O_144.2) P5 (by simp [own_L0, own_L1]) rfl (by decide) (by decide) (own_set_rng own_lr0 ⟨rc.2.2 ▸ rc.1, rc.2.2 ▸ rc.2.1⟩) rfl (by decide) (by decide)) (g := (mkF m 107 #[.val (.int p1), .val (.int p2), .val (.int p3), .val (.int p4), .val (.ref mg), .val (.int kk), .val (.int c), .val (.int mu), .val (.int sel), .val (.ref ar113), .val (.int (Int32.ofNat pN)), .val (.int (own_L0.getD pN 0)), .val (.int (1 : Int32))] [(.ref ar113), (.ref x), (.ref x), (.ref mg)])) rfl (by rw [hml]; rfl) (Steps.refl _) (a := x) (argsL := [(.ref ar113)]) (rest := [(.ref x), (.ref mg)]) (lenOf pd___C_V rfl) rfl (by show 2 * 0 + _ ≤ _; exact Nat.le_of_eq rfl) (hb hby at_107) (fun _ _ => ⟨rfl, e138, Nat.le_of_ble_eq_true rfl, Nat.le_of_ble_eq_true rfl⟩)
        dsimp only [Pt.U, Pt.locs, Pt.cells, Pt.slots] at X146 l146 y146 z146 st146 hQ146
        subst l146 y146 z146
        obtain ⟨rfl, Nq146, K146, Eq146, Fc146, t146, kb146, g_t146, le146, nx146, Fv146, V_t146⟩ := hQ146
        have N146 := Fr.app N135 Nq146
        have hs147 : ∀ sx_ ∈ ([x] : List Addr), Safe Z own_EL s.vm h138 sx_ := (allS sfx all0)
        have R147 := R142.trans (CHr.keep K146 hs147 R142.1)
        have V_t146_ : Arv Z T146.heap t146 kb146 .byte (Int32.ofNat ((own_L0.set pN c)).length) ((((own_L0.set pN c)).map (fun c => c.toInt8.toInt32)).map Value.int) (.int (0 : Int32)) := by
          have e : ((own_L0.set pN c)).length = 41 := by simp [own_L0, own_L1]
          rw [e]; exact V_t146
        have O_148 := (O_144.keep K146 (allS g_x all0))
        obtain ⟨r, hr1, rt⟩ := rmIA l Z a0 hw [] mg x t146 kb146 (own_L0.set pN c) G1 T146.heap n0 Eq146 Fv146 Fc146 V_t146_ (own_set_rng own_lr0 ⟨rc.2.2 ▸ rc.1, rc.2.2 ▸ rc.2.1⟩) (by simp [own_L0, own_L1, own_L2, own_L3, own_L4]) O2 P5 O_148
        obtain rfl : r = 1 := by
          rcases hr1 with ⟨h, -⟩ | ⟨-, h⟩
          · exact h
          · exact absurd (Or.inl (own_set_same own_L0 pN c (by simp [own_L0]; omega) hs)) h
        have E_mg_149 := ((((Em104.keep K113).keep K135).keep K138).keep K146)
        have HK_151 := (Nat.le_trans (Nat.le_trans (Nat.le_trans (Nat.le_trans (Nat.le_trans (Nat.le_trans hk0 K101.1) K104.1) K113.1) K135.1) K138.1) K146.1)
        have go152 : ∀ tg_, Steps p.tables e below (T146.setTop (mkF m 110 #[.val (.int p1), .val (.int p2), .val (.int p3), .val (.int p4), .val (.ref mg), .val (.int kk), .val (.int c), .val (.int mu), .val (.int sel), .val (.ref ar113), .val (.int (Int32.ofNat pN)), .val (.int (own_L0.getD pN 0)), .val (.int (1 : Int32))] [(.ref x), (.ref mg)])) tg_ → Steps p.tables e below (s₁.setTop (entryFrame m #[(.int p1), (.int p2), (.int p3), (.int p4)] maxLocals)) tg_ := fun tg_ k => go118 tg_ (by
            show Steps p.tables e below (T113.setTop (mkF m 72 #[.val (.int p1), .val (.int p2), .val (.int p3), .val (.int p4), .val (.ref mg), .val (.int kk), .val (.int c), .val (.int mu), .val (.int sel), .val (.ref ar113), .val (.int (Int32.ofNat pN)), .val (.int (own_L0.getD pN 0)), .unset] [(.int mu)])) _
            refine XS.ifNo X113.here hx rfl (hb hby at_72) rfl ((if0 _ _).trans (feq (hm : ¬ (mu = (0 : Int32)))).1) ?_
            show Steps p.tables e below (T113.setTop (mkF m 75 #[.val (.int p1), .val (.int p2), .val (.int p3), .val (.int p4), .val (.ref mg), .val (.int kk), .val (.int c), .val (.int mu), .val (.int sel), .val (.ref ar113), .val (.int (Int32.ofNat pN)), .val (.int (own_L0.getD pN 0)), .unset] [])) _
            refine XS.aload X113.here hx rfl (hb hby at_75) rfl rfl ?_
            show Steps p.tables e below (T113.setTop (mkF m 77 #[.val (.int p1), .val (.int p2), .val (.int p3), .val (.int p4), .val (.ref mg), .val (.int kk), .val (.int c), .val (.int mu), .val (.int sel), .val (.ref ar113), .val (.int (Int32.ofNat pN)), .val (.int (own_L0.getD pN 0)), .unset] [(.ref ar113)])) _
            refine XS.iload X113.here hx rfl (hb hby at_77) rfl ?_
            show Steps p.tables e below (T113.setTop (mkF m 79 #[.val (.int p1), .val (.int p2), .val (.int p3), .val (.int p4), .val (.ref mg), .val (.int kk), .val (.int c), .val (.int mu), .val (.int sel), .val (.ref ar113), .val (.int (Int32.ofNat pN)), .val (.int (own_L0.getD pN 0)), .unset] [(.int (Int32.ofNat pN)), (.ref ar113)])) _
            refine XS.iload X113.here hx rfl (hb hby at_79) rfl ?_
            show Steps p.tables e below (T113.setTop (mkF m 81 #[.val (.int p1), .val (.int p2), .val (.int p3), .val (.int p4), .val (.ref mg), .val (.int kk), .val (.int c), .val (.int mu), .val (.int sel), .val (.ref ar113), .val (.int (Int32.ofNat pN)), .val (.int (own_L0.getD pN 0)), .unset] [(.int c), (.int (Int32.ofNat pN)), (.ref ar113)])) _
            refine st135 _ ?_
            show Steps p.tables e below (T135.setTop (mkF m 82 #[.val (.int p1), .val (.int p2), .val (.int p3), .val (.int p4), .val (.ref mg), .val (.int kk), .val (.int c), .val (.int mu), .val (.int sel), .val (.ref ar113), .val (.int (Int32.ofNat pN)), .val (.int (own_L0.getD pN 0)), .unset] [])) _
            refine XS.aload X135.here hx rfl (hb hby at_82) rfl rfl ?_
            show Steps p.tables e below (T135.setTop (mkF m 84 #[.val (.int p1), .val (.int p2), .val (.int p3), .val (.int p4), .val (.ref mg), .val (.int kk), .val (.int c), .val (.int mu), .val (.int sel), .val (.ref ar113), .val (.int (Int32.ofNat pN)), .val (.int (own_L0.getD pN 0)), .unset] [(.ref ar113)])) _
            refine XS.iload X135.here hx rfl (hb hby at_84) rfl ?_
            show Steps p.tables e below (T135.setTop (mkF m 86 #[.val (.int p1), .val (.int p2), .val (.int p3), .val (.int p4), .val (.ref mg), .val (.int kk), .val (.int c), .val (.int mu), .val (.int sel), .val (.ref ar113), .val (.int (Int32.ofNat pN)), .val (.int (own_L0.getD pN 0)), .unset] [(.int (Int32.ofNat pN)), (.ref ar113)])) _
            refine X135.caload hx (j := (Int32.ofNat pN)) (v := (.int c)) (by rw [e135]; exact Ar137.1) (State.isArrayOf_alike hZ.alike Ar137.2.1) Ar137.2.2 hin137 hat137 (g := (mkF m 86 #[.val (.int p1), .val (.int p2), .val (.int p3), .val (.int p4), .val (.ref mg), .val (.int kk), .val (.int c), .val (.int mu), .val (.int sel), .val (.ref ar113), .val (.int (Int32.ofNat pN)), .val (.int (own_L0.getD pN 0)), .unset] [(.int (Int32.ofNat pN)), (.ref ar113)])) rfl rfl (hb hby at_86) _ ?_
            show Steps p.tables e below (T135.setTop (mkF m 87 #[.val (.int p1), .val (.int p2), .val (.int p3), .val (.int p4), .val (.ref mg), .val (.int kk), .val (.int c), .val (.int mu), .val (.int sel), .val (.ref ar113), .val (.int (Int32.ofNat pN)), .val (.int (own_L0.getD pN 0)), .unset] [(.int c)])) _
            refine XS.iload X135.here hx rfl (hb hby at_87) rfl ?_
            show Steps p.tables e below (T135.setTop (mkF m 89 #[.val (.int p1), .val (.int p2), .val (.int p3), .val (.int p4), .val (.ref mg), .val (.int kk), .val (.int c), .val (.int mu), .val (.int sel), .val (.ref ar113), .val (.int (Int32.ofNat pN)), .val (.int (own_L0.getD pN 0)), .unset] [(.int (own_L0.getD pN 0)), (.int c)])) _
            refine XS.icmpNo X135.here hx rfl (hb hby at_89) rfl (teq (hs : c = (own_L0.getD pN 0))).2 ?_
            show Steps p.tables e below (T135.setTop (mkF m 92 #[.val (.int p1), .val (.int p2), .val (.int p3), .val (.int p4), .val (.ref mg), .val (.int kk), .val (.int c), .val (.int mu), .val (.int sel), .val (.ref ar113), .val (.int (Int32.ofNat pN)), .val (.int (own_L0.getD pN 0)), .unset] [])) _
            refine XS.iconst X135.here hx rfl (hb hby at_92) ?_
            show Steps p.tables e below (T135.setTop (mkF m 93 #[.val (.int p1), .val (.int p2), .val (.int p3), .val (.int p4), .val (.ref mg), .val (.int kk), .val (.int c), .val (.int mu), .val (.int sel), .val (.ref ar113), .val (.int (Int32.ofNat pN)), .val (.int (own_L0.getD pN 0)), .unset] [(.int (1 : Int32))])) _
            refine XS.goto X135.here hx rfl (pc0 := 93) (pc' := 97) rfl (hb hby at_93) (by decide) (by decide) ?_
            show Steps p.tables e below (T135.setTop (mkF m 97 #[.val (.int p1), .val (.int p2), .val (.int p3), .val (.int p4), .val (.ref mg), .val (.int kk), .val (.int c), .val (.int mu), .val (.int sel), .val (.ref ar113), .val (.int (Int32.ofNat pN)), .val (.int (own_L0.getD pN 0)), .unset] [(.int (1 : Int32))])) _
            refine XS.istore X135.here hx rfl (hb hby at_97) rfl (l' := #[.val (.int p1), .val (.int p2), .val (.int p3), .val (.int p4), .val (.ref mg), .val (.int kk), .val (.int c), .val (.int mu), .val (.int sel), .val (.ref ar113), .val (.int (Int32.ofNat pN)), .val (.int (own_L0.getD pN 0)), .val (.int (1 : Int32))]) rfl ?_
            show Steps p.tables e below (T135.setTop (mkF m 99 #[.val (.int p1), .val (.int p2), .val (.int p3), .val (.int p4), .val (.ref mg), .val (.int kk), .val (.int c), .val (.int mu), .val (.int sel), .val (.ref ar113), .val (.int (Int32.ofNat pN)), .val (.int (own_L0.getD pN 0)), .val (.int (1 : Int32))] [])) _
            refine XS.aload X135.here hx rfl (hb hby at_99) rfl rfl ?_
            show Steps p.tables e below (T135.setTop (mkF m 101 #[.val (.int p1), .val (.int p2), .val (.int p3), .val (.int p4), .val (.ref mg), .val (.int kk), .val (.int c), .val (.int mu), .val (.int sel), .val (.ref ar113), .val (.int (Int32.ofNat pN)), .val (.int (own_L0.getD pN 0)), .val (.int (1 : Int32))] [(.ref mg)])) _
            refine st138 _ ?_
            show Steps p.tables e below (T138.setTop (mkF m 104 #[.val (.int p1), .val (.int p2), .val (.int p3), .val (.int p4), .val (.ref mg), .val (.int kk), .val (.int c), .val (.int mu), .val (.int sel), .val (.ref ar113), .val (.int (Int32.ofNat pN)), .val (.int (own_L0.getD pN 0)), .val (.int (1 : Int32))] [(.ref x), (.ref mg)])) _
            refine XS.dup X138.here hx rfl (hb hby at_104) rfl rfl ?_
            show Steps p.tables e below (T138.setTop (mkF m 105 #[.val (.int p1), .val (.int p2), .val (.int p3), .val (.int p4), .val (.ref mg), .val (.int kk), .val (.int c), .val (.int mu), .val (.int sel), .val (.ref ar113), .val (.int (Int32.ofNat pN)), .val (.int (own_L0.getD pN 0)), .val (.int (1 : Int32))] [(.ref x), (.ref x), (.ref mg)])) _
            refine XS.aload X138.here hx rfl (hb hby at_105) rfl rfl ?_
            show Steps p.tables e below (T138.setTop (mkF m 107 #[.val (.int p1), .val (.int p2), .val (.int p3), .val (.int p4), .val (.ref mg), .val (.int kk), .val (.int c), .val (.int mu), .val (.int sel), .val (.ref ar113), .val (.int (Int32.ofNat pN)), .val (.int (own_L0.getD pN 0)), .val (.int (1 : Int32))] [(.ref ar113), (.ref x), (.ref x), (.ref mg)])) _
            refine st146.trans ?_
            exact k)
        obtain ⟨cq150, kq150, q150a, q150b, q150c⟩ := isOf hZ rfl E_mg_149
        obtain ⟨_, _, ⟨T150, L150, kk150, nn150⟩, -, Y150, hT150, gr150, ⟨Lc150, hQ150, l150, y150, z150, C150⟩, st150⟩ := X146.virtualBackS hx (y := (⟨"com/example/tramway/tramway/poa/TramwayPoaManager", "_is_a", "(Ljava/lang/String;)Z"⟩ : MethodName)) (z := (⟨"com/example/tramway/tramway/poa/TramwayPoaManager", "_is_a", "(Ljava/lang/String;)Z"⟩ : MethodName)) hown (mvT hZ (hw _ (List.mem_of_getElem? (i := 47) rfl))) (mvT hZ (hw _ (List.mem_of_getElem? (i := 48) rfl))) (notFace_of_selects (args := #[]) (mvT hZ (hw _ (List.mem_of_getElem? (i := 50) rfl)))) (mvT hZ (hw _ (List.mem_of_getElem? (i := 50) rfl))) (mvT hZ (hw _ (List.mem_of_getElem? (i := 49) rfl))) (by decide) (backOfSH (W := 0) (rt) hZ (hw _ (List.mem_of_getElem? (i := 51) rfl)) (hw _ (List.mem_of_getElem? (i := 2) rfl)) (by decide) (by decide) hEL R147.1) q150a q150c (g := (mkF m 110 #[.val (.int p1), .val (.int p2), .val (.int p3), .val (.int p4), .val (.ref mg), .val (.int kk), .val (.int c), .val (.int mu), .val (.int sel), .val (.ref ar113), .val (.int (Int32.ofNat pN)), .val (.int (own_L0.getD pN 0)), .val (.int (1 : Int32))] [(.ref x), (.ref mg)])) rfl (by rw [hml]; rfl) (Steps.refl _) (argsL := [(.ref x)]) (rest := []) (lenOf pd__Ljava_lang_String__Z rfl) rfl (by show 2 * 0 + _ ≤ _; exact Nat.le_of_eq rfl) (hb hby at_110) (fun _ _ => ⟨rfl, rfl, Nat.le_of_ble_eq_true rfl, Nat.le_of_ble_eq_true rfl⟩)
        dsimp only [Pt.U, Pt.locs, Pt.cells, Pt.slots] at Y150 hT150 gr150 l150 y150 z150 C150 st150 hQ150
        subst l150 y150 z150
        obtain ⟨X150, hS150, hZ, hown⟩ := rebS hS0 HK_151 Y150 hT150 gr150 hZ hown
        have hk150 := Nat.le_refl T150.heap.size
        obtain ⟨rfl, Nq150, K150⟩ := hQ150
        have N150 := Fr.app N146 Nq150
        have R153 := R147.trans C150
        obtain ⟨fs, hr, hrun, hended, hRE⟩ := X150.leaveW hS150 hk150 (v := some (.int (1 : Int32))) (fun h => by rw [Bd.returns] at h; cases h)
        refine ⟨_, _, go152 _ ?_, hrun, hended, _, _, rfl, ?_, ?_, hRE.1, hRE.2.1, hRE.2.2.1, hRE.2.2.2.mono (by decide) (by decide)⟩
        · show Steps p.tables e below (T146.setTop (mkF m 110 #[.val (.int p1), .val (.int p2), .val (.int p3), .val (.int p4), .val (.ref mg), .val (.int kk), .val (.int c), .val (.int mu), .val (.int sel), .val (.ref ar113), .val (.int (Int32.ofNat pN)), .val (.int (own_L0.getD pN 0)), .val (.int (1 : Int32))] [(.ref x), (.ref mg)])) _
          refine st150.trans ?_
          show Steps p.tables e below (T150.setTop (mkF m 113 #[.val (.int p1), .val (.int p2), .val (.int p3), .val (.int p4), .val (.ref mg), .val (.int kk), .val (.int c), .val (.int mu), .val (.int sel), .val (.ref ar113), .val (.int (Int32.ofNat pN)), .val (.int (own_L0.getD pN 0)), .val (.int (1 : Int32))] [(.int (1 : Int32))])) _
          refine XS.iload X150.here hx rfl (hb hby at_113) rfl ?_
          show Steps p.tables e below (T150.setTop (mkF m 115 #[.val (.int p1), .val (.int p2), .val (.int p3), .val (.int p4), .val (.ref mg), .val (.int kk), .val (.int c), .val (.int mu), .val (.int sel), .val (.ref ar113), .val (.int (Int32.ofNat pN)), .val (.int (own_L0.getD pN 0)), .val (.int (1 : Int32))] [(.int (1 : Int32)), (.int (1 : Int32))])) _
          refine XS.icmpNo X150.here hx rfl (hb hby at_115) rfl (teq (rfl : (1 : Int32) = (1 : Int32))).2 ?_
          show Steps p.tables e below (T150.setTop (mkF m 118 #[.val (.int p1), .val (.int p2), .val (.int p3), .val (.int p4), .val (.ref mg), .val (.int kk), .val (.int c), .val (.int mu), .val (.int sel), .val (.ref ar113), .val (.int (Int32.ofNat pN)), .val (.int (own_L0.getD pN 0)), .val (.int (1 : Int32))] [])) _
          refine XS.iconst X150.here hx rfl (hb hby at_118) ?_
          show Steps p.tables e below (T150.setTop (mkF m 119 #[.val (.int p1), .val (.int p2), .val (.int p3), .val (.int p4), .val (.ref mg), .val (.int kk), .val (.int c), .val (.int mu), .val (.int sel), .val (.ref ar113), .val (.int (Int32.ofNat pN)), .val (.int (own_L0.getD pN 0)), .val (.int (1 : Int32))] [(.int (1 : Int32))])) _
          refine XS.goto X150.here hx rfl (pc0 := 119) (pc' := 123) rfl (hb hby at_119) (by decide) (by decide) ?_
          show Steps p.tables e below (T150.setTop (mkF m 123 #[.val (.int p1), .val (.int p2), .val (.int p3), .val (.int p4), .val (.ref mg), .val (.int kk), .val (.int c), .val (.int mu), .val (.int sel), .val (.ref ar113), .val (.int (Int32.ofNat pN)), .val (.int (own_L0.getD pN 0)), .val (.int (1 : Int32))] [(.int (1 : Int32))])) _
          exact retN X150 hx (t := .boolean) Bd.returns (by simp) (hb hby at_123) hr
        · show Q0 h0 n0 _ T150.heap _
          exact ⟨rfl, N150⟩
        · show CHr Z own_EL s.vm s.heap T150.vm T150.heap
          rw [hh]
          exact R153.trans (CHv.at X150 hZ hEL R153.1)
      · obtain ⟨cl154, Ar154, q154, S154, M154, Hh154, G154⟩ := id V_ar113
        obtain ⟨T154, h154, X154, e154, W154, st154⟩ := stC X113 hx hZ rfl Ar154 (j := (Int32.ofNat pN)) (inb_of S154 ⟨own_nn (by omega), own_lt32 (b := 41) hpN (by decide)⟩) (g := (mkF m 81 #[.val (.int p1), .val (.int p2), .val (.int p3), .val (.int p4), .val (.ref mg), .val (.int kk), .val (.int c), .val (.int mu), .val (.int sel), .val (.ref ar113), .val (.int (Int32.ofNat pN)), .val (.int (own_L0.getD pN 0)), .unset] [(.int c), (.int (Int32.ofNat pN)), (.ref ar113)])) rfl rfl (hb hby at_81)
        have V_ar113_154 : Arv Z h154 ar113 ka113 .char (41 : Int32) ((own_L0.set pN c).map Value.int) (.int (0 : Int32)) := (own_setv own_L0 pN c rc.2.2) ▸ (Arv.set Ar154 q154 S154 M154 Hh154 G154 (fits_nar_char _) W154 pN (own_clamp (by omega)) (by simp [own_L0]; omega))
        have K154 : Keep T113.heap h154 [ar113] := Keep.of_wr W154
        have hs155 : ∀ sx_ ∈ ([ar113] : List Addr), Safe Z own_EL s.vm T113.heap sx_ := (allS (Safe.arr hZ.alike Ar154 (by decide)) all0)
        have R155 := R114.trans (CHr.keep K154 hs155 R114.1)
        have N154 := Fr.snoc X154 N113 g_ar113
        obtain ⟨cl156, Ar156, q156, S156, M156, Hh156, G156⟩ := id V_ar113_154
        have hin156 : ¬ ((Int32.ofNat pN) < 0 ∨ cl156.slots.size ≤ ((Int32.ofNat pN)).toNatClampNeg) := inb_of S156 ⟨own_nn (by omega), own_lt32 (b := 41) hpN (by decide)⟩
        have hat156 : cl156.slots[((Int32.ofNat pN)).toNatClampNeg]? = some (.int c) := Has.at Hh156 hin156 (by rw [own_clamp (by omega)]; exact own_getset _ _ _ (by simp [own_L0]; omega))
        obtain ⟨T157, h157, X157, e157, E157, A157, D157, -, st157⟩ := newO X154 hx hZ hown (hw _ (List.mem_of_getElem? (i := 20) rfl)) (hw _ (List.mem_of_getElem? (i := 21) rfl)) (hw _ (List.mem_of_getElem? (i := 22) rfl)) e154 (g := (mkF m 101 #[.val (.int p1), .val (.int p2), .val (.int p3), .val (.int p4), .val (.ref mg), .val (.int kk), .val (.int c), .val (.int mu), .val (.int sel), .val (.ref ar113), .val (.int (Int32.ofNat pN)), .val (.int (own_L0.getD pN 0)), .val (.int (0 : Int32))] [(.ref mg)])) rfl (hb hby at_101) (by decide) (by decide)
        obtain ⟨x, g157⟩ : ∃ z, z = h154.size := ⟨_, rfl⟩
        rw [← g157] at A157 D157 st157
        have Z_158 := (Nat.le_trans (Nat.le_trans Z_112 K113.1) K154.1)
        have g_x : n0 ≤ x := Nat.le_trans Z_158 (Nat.le_of_eq g157.symm)
        have lt_mg_159 := (Nat.lt_of_lt_of_le (Nat.lt_of_lt_of_le lt_mg_115 K113.1) K154.1)
        have ne_mg_x : mg ≠ x := (Nat.ne_of_lt (Nat.lt_of_lt_of_le lt_mg_159 (Nat.le_of_eq g157.symm)))
        have lt_ar113_160 := (Nat.lt_of_lt_of_le lt_ar113 K154.1)
        have ne_ar113_x : ar113 ≠ x := (Nat.ne_of_lt (Nat.lt_of_lt_of_le lt_ar113_160 (Nat.le_of_eq g157.symm)))
        have F_coder_x : Fld Z h157 x "java/lang/String" "coder" "B" (.int (0 : Int32)) := D157 (Or.inr (hw _ (List.mem_of_getElem? (i := 44) rfl))) (ty := .byte) (by decide)
        have F_value_x : Fld Z h157 x "java/lang/String" "value" "[B" .null := D157 (Or.inr (hw _ (List.mem_of_getElem? (i := 46) rfl))) (ty := (.array .byte)) (by decide)
        have K157 : Keep h154 h157 [] := (Keep.refl _ []).ext E157
        have hs161 : ∀ sx_ ∈ ([] : List Addr), Safe Z own_EL s.vm h154 sx_ := all0
        have R161 := R155.trans (CHr.keep K157 hs161 R155.1)
        have lt_x : x < h157.size := A157.lt
        have sfx : Safe Z own_EL s.vm h157 x := own_safe_null hZ.alike A157 F_value_x (hw _ (List.mem_of_getElem? (i := 21) rfl))
        have Z_162 := (Nat.le_trans Z_158 K157.1)
        have O_163 := ((((O_103.keep K104 (allS g_mg all0)).keep K113 all0).keep K154 (allS g_ar113 all0)).keep K157 all0)
        have V_ar113_164 := (V_ar113_154.keep K157 nin0)
        obtain ⟨_, _, ⟨T165, L165, kk165, nn165⟩, -, X165, ⟨Lc165, hQ165, l165, y165, z165⟩, st165⟩ := X157.specialBack hx (y := (⟨"java/lang/String", "<init>", "([C)V"⟩ : MethodName)) rfl hown (mvT hZ (hw _ (List.mem_of_getElem? (i := 23) rfl))) (mvT hZ (hw _ (List.mem_of_getElem? (i := 24) rfl))) (mvT hZ (hw _ (List.mem_of_getElem? (i := 25) rfl))) (by decide) (StrChars.Road.backV (W := 2) hZ hws (kI := 4) (hw _ (List.mem_of_getElem? (i := 21) rfl)) (cs := (own_L0.set pN c)) (bs := ((own_L0.set pN c)).map (fun c => c.toInt8.toInt32)) (n := 41) g_x Z_162 A157 F_value_x F_coder_x V_ar113_164 (O2.ext O_163.2) P5 (by simp [own_L0, own_L1]) rfl (by decide) (by decide) (own_set_rng own_lr0 ⟨rc.2.2 ▸ rc.1, rc.2.2 ▸ rc.2.1⟩) rfl (by decide) (by decide)) (g := (mkF m 107 #[.val (.int p1), .val (.int p2), .val (.int p3), .val (.int p4), .val (.ref mg), .val (.int kk), .val (.int c), .val (.int mu), .val (.int sel), .val (.ref ar113), .val (.int (Int32.ofNat pN)), .val (.int (own_L0.getD pN 0)), .val (.int (0 : Int32))] [(.ref ar113), (.ref x), (.ref x), (.ref mg)])) rfl (by rw [hml]; rfl) (Steps.refl _) (a := x) (argsL := [(.ref ar113)]) (rest := [(.ref x), (.ref mg)]) (lenOf pd___C_V rfl) rfl (by show 2 * 0 + _ ≤ _; exact Nat.le_of_eq rfl) (hb hby at_107) (fun _ _ => ⟨rfl, e157, Nat.le_of_ble_eq_true rfl, Nat.le_of_ble_eq_true rfl⟩)
        dsimp only [Pt.U, Pt.locs, Pt.cells, Pt.slots] at X165 l165 y165 z165 st165 hQ165
        subst l165 y165 z165
        obtain ⟨rfl, Nq165, K165, Eq165, Fc165, t165, kb165, g_t165, le165, nx165, Fv165, V_t165⟩ := hQ165
        have N165 := Fr.app N154 Nq165
        have hs166 : ∀ sx_ ∈ ([x] : List Addr), Safe Z own_EL s.vm h157 sx_ := (allS sfx all0)
        have R166 := R161.trans (CHr.keep K165 hs166 R161.1)
        have V_t165_ : Arv Z T165.heap t165 kb165 .byte (Int32.ofNat ((own_L0.set pN c)).length) ((((own_L0.set pN c)).map (fun c => c.toInt8.toInt32)).map Value.int) (.int (0 : Int32)) := by
          have e : ((own_L0.set pN c)).length = 41 := by simp [own_L0, own_L1]
          rw [e]; exact V_t165
        have O_167 := (O_163.keep K165 (allS g_x all0))
        obtain ⟨r, hr1, rt⟩ := rmIA l Z a0 hw [] mg x t165 kb165 (own_L0.set pN c) G1 T165.heap n0 Eq165 Fv165 Fc165 V_t165_ (own_set_rng own_lr0 ⟨rc.2.2 ▸ rc.1, rc.2.2 ▸ rc.2.1⟩) (by simp [own_L0, own_L1, own_L2, own_L3, own_L4]) O2 P5 O_167
        obtain rfl : r = 0 := by
          rcases hr1 with ⟨-, h⟩ | ⟨h, -⟩
          · exact absurd h (own_set_ne0 (by omega) hs)
          · exact h
        have E_mg_168 := ((((Em104.keep K113).keep K154).keep K157).keep K165)
        have HK_170 := (Nat.le_trans (Nat.le_trans (Nat.le_trans (Nat.le_trans (Nat.le_trans (Nat.le_trans hk0 K101.1) K104.1) K113.1) K154.1) K157.1) K165.1)
        have go171 : ∀ tg_, Steps p.tables e below (T165.setTop (mkF m 110 #[.val (.int p1), .val (.int p2), .val (.int p3), .val (.int p4), .val (.ref mg), .val (.int kk), .val (.int c), .val (.int mu), .val (.int sel), .val (.ref ar113), .val (.int (Int32.ofNat pN)), .val (.int (own_L0.getD pN 0)), .val (.int (0 : Int32))] [(.ref x), (.ref mg)])) tg_ → Steps p.tables e below (s₁.setTop (entryFrame m #[(.int p1), (.int p2), (.int p3), (.int p4)] maxLocals)) tg_ := fun tg_ k => go118 tg_ (by
            show Steps p.tables e below (T113.setTop (mkF m 72 #[.val (.int p1), .val (.int p2), .val (.int p3), .val (.int p4), .val (.ref mg), .val (.int kk), .val (.int c), .val (.int mu), .val (.int sel), .val (.ref ar113), .val (.int (Int32.ofNat pN)), .val (.int (own_L0.getD pN 0)), .unset] [(.int mu)])) _
            refine XS.ifNo X113.here hx rfl (hb hby at_72) rfl ((if0 _ _).trans (feq (hm : ¬ (mu = (0 : Int32)))).1) ?_
            show Steps p.tables e below (T113.setTop (mkF m 75 #[.val (.int p1), .val (.int p2), .val (.int p3), .val (.int p4), .val (.ref mg), .val (.int kk), .val (.int c), .val (.int mu), .val (.int sel), .val (.ref ar113), .val (.int (Int32.ofNat pN)), .val (.int (own_L0.getD pN 0)), .unset] [])) _
            refine XS.aload X113.here hx rfl (hb hby at_75) rfl rfl ?_
            show Steps p.tables e below (T113.setTop (mkF m 77 #[.val (.int p1), .val (.int p2), .val (.int p3), .val (.int p4), .val (.ref mg), .val (.int kk), .val (.int c), .val (.int mu), .val (.int sel), .val (.ref ar113), .val (.int (Int32.ofNat pN)), .val (.int (own_L0.getD pN 0)), .unset] [(.ref ar113)])) _
            refine XS.iload X113.here hx rfl (hb hby at_77) rfl ?_
            show Steps p.tables e below (T113.setTop (mkF m 79 #[.val (.int p1), .val (.int p2), .val (.int p3), .val (.int p4), .val (.ref mg), .val (.int kk), .val (.int c), .val (.int mu), .val (.int sel), .val (.ref ar113), .val (.int (Int32.ofNat pN)), .val (.int (own_L0.getD pN 0)), .unset] [(.int (Int32.ofNat pN)), (.ref ar113)])) _
            refine XS.iload X113.here hx rfl (hb hby at_79) rfl ?_
            show Steps p.tables e below (T113.setTop (mkF m 81 #[.val (.int p1), .val (.int p2), .val (.int p3), .val (.int p4), .val (.ref mg), .val (.int kk), .val (.int c), .val (.int mu), .val (.int sel), .val (.ref ar113), .val (.int (Int32.ofNat pN)), .val (.int (own_L0.getD pN 0)), .unset] [(.int c), (.int (Int32.ofNat pN)), (.ref ar113)])) _
            refine st154 _ ?_
            show Steps p.tables e below (T154.setTop (mkF m 82 #[.val (.int p1), .val (.int p2), .val (.int p3), .val (.int p4), .val (.ref mg), .val (.int kk), .val (.int c), .val (.int mu), .val (.int sel), .val (.ref ar113), .val (.int (Int32.ofNat pN)), .val (.int (own_L0.getD pN 0)), .unset] [])) _
            refine XS.aload X154.here hx rfl (hb hby at_82) rfl rfl ?_
            show Steps p.tables e below (T154.setTop (mkF m 84 #[.val (.int p1), .val (.int p2), .val (.int p3), .val (.int p4), .val (.ref mg), .val (.int kk), .val (.int c), .val (.int mu), .val (.int sel), .val (.ref ar113), .val (.int (Int32.ofNat pN)), .val (.int (own_L0.getD pN 0)), .unset] [(.ref ar113)])) _
            refine XS.iload X154.here hx rfl (hb hby at_84) rfl ?_
            show Steps p.tables e below (T154.setTop (mkF m 86 #[.val (.int p1), .val (.int p2), .val (.int p3), .val (.int p4), .val (.ref mg), .val (.int kk), .val (.int c), .val (.int mu), .val (.int sel), .val (.ref ar113), .val (.int (Int32.ofNat pN)), .val (.int (own_L0.getD pN 0)), .unset] [(.int (Int32.ofNat pN)), (.ref ar113)])) _
            refine X154.caload hx (j := (Int32.ofNat pN)) (v := (.int c)) (by rw [e154]; exact Ar156.1) (State.isArrayOf_alike hZ.alike Ar156.2.1) Ar156.2.2 hin156 hat156 (g := (mkF m 86 #[.val (.int p1), .val (.int p2), .val (.int p3), .val (.int p4), .val (.ref mg), .val (.int kk), .val (.int c), .val (.int mu), .val (.int sel), .val (.ref ar113), .val (.int (Int32.ofNat pN)), .val (.int (own_L0.getD pN 0)), .unset] [(.int (Int32.ofNat pN)), (.ref ar113)])) rfl rfl (hb hby at_86) _ ?_
            show Steps p.tables e below (T154.setTop (mkF m 87 #[.val (.int p1), .val (.int p2), .val (.int p3), .val (.int p4), .val (.ref mg), .val (.int kk), .val (.int c), .val (.int mu), .val (.int sel), .val (.ref ar113), .val (.int (Int32.ofNat pN)), .val (.int (own_L0.getD pN 0)), .unset] [(.int c)])) _
            refine XS.iload X154.here hx rfl (hb hby at_87) rfl ?_
            show Steps p.tables e below (T154.setTop (mkF m 89 #[.val (.int p1), .val (.int p2), .val (.int p3), .val (.int p4), .val (.ref mg), .val (.int kk), .val (.int c), .val (.int mu), .val (.int sel), .val (.ref ar113), .val (.int (Int32.ofNat pN)), .val (.int (own_L0.getD pN 0)), .unset] [(.int (own_L0.getD pN 0)), (.int c)])) _
            refine XS.icmpYes X154.here hx rfl (pc0 := 89) (pc' := 96) rfl (hb hby at_89) rfl (feq (hs : ¬ (c = (own_L0.getD pN 0)))).2 (by decide) (by decide) ?_
            show Steps p.tables e below (T154.setTop (mkF m 96 #[.val (.int p1), .val (.int p2), .val (.int p3), .val (.int p4), .val (.ref mg), .val (.int kk), .val (.int c), .val (.int mu), .val (.int sel), .val (.ref ar113), .val (.int (Int32.ofNat pN)), .val (.int (own_L0.getD pN 0)), .unset] [])) _
            refine XS.iconst X154.here hx rfl (hb hby at_96) ?_
            show Steps p.tables e below (T154.setTop (mkF m 97 #[.val (.int p1), .val (.int p2), .val (.int p3), .val (.int p4), .val (.ref mg), .val (.int kk), .val (.int c), .val (.int mu), .val (.int sel), .val (.ref ar113), .val (.int (Int32.ofNat pN)), .val (.int (own_L0.getD pN 0)), .unset] [(.int (0 : Int32))])) _
            refine XS.istore X154.here hx rfl (hb hby at_97) rfl (l' := #[.val (.int p1), .val (.int p2), .val (.int p3), .val (.int p4), .val (.ref mg), .val (.int kk), .val (.int c), .val (.int mu), .val (.int sel), .val (.ref ar113), .val (.int (Int32.ofNat pN)), .val (.int (own_L0.getD pN 0)), .val (.int (0 : Int32))]) rfl ?_
            show Steps p.tables e below (T154.setTop (mkF m 99 #[.val (.int p1), .val (.int p2), .val (.int p3), .val (.int p4), .val (.ref mg), .val (.int kk), .val (.int c), .val (.int mu), .val (.int sel), .val (.ref ar113), .val (.int (Int32.ofNat pN)), .val (.int (own_L0.getD pN 0)), .val (.int (0 : Int32))] [])) _
            refine XS.aload X154.here hx rfl (hb hby at_99) rfl rfl ?_
            show Steps p.tables e below (T154.setTop (mkF m 101 #[.val (.int p1), .val (.int p2), .val (.int p3), .val (.int p4), .val (.ref mg), .val (.int kk), .val (.int c), .val (.int mu), .val (.int sel), .val (.ref ar113), .val (.int (Int32.ofNat pN)), .val (.int (own_L0.getD pN 0)), .val (.int (0 : Int32))] [(.ref mg)])) _
            refine st157 _ ?_
            show Steps p.tables e below (T157.setTop (mkF m 104 #[.val (.int p1), .val (.int p2), .val (.int p3), .val (.int p4), .val (.ref mg), .val (.int kk), .val (.int c), .val (.int mu), .val (.int sel), .val (.ref ar113), .val (.int (Int32.ofNat pN)), .val (.int (own_L0.getD pN 0)), .val (.int (0 : Int32))] [(.ref x), (.ref mg)])) _
            refine XS.dup X157.here hx rfl (hb hby at_104) rfl rfl ?_
            show Steps p.tables e below (T157.setTop (mkF m 105 #[.val (.int p1), .val (.int p2), .val (.int p3), .val (.int p4), .val (.ref mg), .val (.int kk), .val (.int c), .val (.int mu), .val (.int sel), .val (.ref ar113), .val (.int (Int32.ofNat pN)), .val (.int (own_L0.getD pN 0)), .val (.int (0 : Int32))] [(.ref x), (.ref x), (.ref mg)])) _
            refine XS.aload X157.here hx rfl (hb hby at_105) rfl rfl ?_
            show Steps p.tables e below (T157.setTop (mkF m 107 #[.val (.int p1), .val (.int p2), .val (.int p3), .val (.int p4), .val (.ref mg), .val (.int kk), .val (.int c), .val (.int mu), .val (.int sel), .val (.ref ar113), .val (.int (Int32.ofNat pN)), .val (.int (own_L0.getD pN 0)), .val (.int (0 : Int32))] [(.ref ar113), (.ref x), (.ref x), (.ref mg)])) _
            refine st165.trans ?_
            exact k)
        obtain ⟨cq169, kq169, q169a, q169b, q169c⟩ := isOf hZ rfl E_mg_168
        obtain ⟨_, _, ⟨T169, L169, kk169, nn169⟩, -, Y169, hT169, gr169, ⟨Lc169, hQ169, l169, y169, z169, C169⟩, st169⟩ := X165.virtualBackS hx (y := (⟨"com/example/tramway/tramway/poa/TramwayPoaManager", "_is_a", "(Ljava/lang/String;)Z"⟩ : MethodName)) (z := (⟨"com/example/tramway/tramway/poa/TramwayPoaManager", "_is_a", "(Ljava/lang/String;)Z"⟩ : MethodName)) hown (mvT hZ (hw _ (List.mem_of_getElem? (i := 47) rfl))) (mvT hZ (hw _ (List.mem_of_getElem? (i := 48) rfl))) (notFace_of_selects (args := #[]) (mvT hZ (hw _ (List.mem_of_getElem? (i := 50) rfl)))) (mvT hZ (hw _ (List.mem_of_getElem? (i := 50) rfl))) (mvT hZ (hw _ (List.mem_of_getElem? (i := 49) rfl))) (by decide) (backOfSH (W := 0) (rt) hZ (hw _ (List.mem_of_getElem? (i := 51) rfl)) (hw _ (List.mem_of_getElem? (i := 2) rfl)) (by decide) (by decide) hEL R166.1) q169a q169c (g := (mkF m 110 #[.val (.int p1), .val (.int p2), .val (.int p3), .val (.int p4), .val (.ref mg), .val (.int kk), .val (.int c), .val (.int mu), .val (.int sel), .val (.ref ar113), .val (.int (Int32.ofNat pN)), .val (.int (own_L0.getD pN 0)), .val (.int (0 : Int32))] [(.ref x), (.ref mg)])) rfl (by rw [hml]; rfl) (Steps.refl _) (argsL := [(.ref x)]) (rest := []) (lenOf pd__Ljava_lang_String__Z rfl) rfl (by show 2 * 0 + _ ≤ _; exact Nat.le_of_eq rfl) (hb hby at_110) (fun _ _ => ⟨rfl, rfl, Nat.le_of_ble_eq_true rfl, Nat.le_of_ble_eq_true rfl⟩)
        dsimp only [Pt.U, Pt.locs, Pt.cells, Pt.slots] at Y169 hT169 gr169 l169 y169 z169 C169 st169 hQ169
        subst l169 y169 z169
        obtain ⟨X169, hS169, hZ, hown⟩ := rebS hS0 HK_170 Y169 hT169 gr169 hZ hown
        have hk169 := Nat.le_refl T169.heap.size
        obtain ⟨rfl, Nq169, K169⟩ := hQ169
        have N169 := Fr.app N165 Nq169
        have R172 := R166.trans C169
        obtain ⟨fs, hr, hrun, hended, hRE⟩ := X169.leaveW hS169 hk169 (v := some (.int (1 : Int32))) (fun h => by rw [Bd.returns] at h; cases h)
        refine ⟨_, _, go171 _ ?_, hrun, hended, _, _, rfl, ?_, ?_, hRE.1, hRE.2.1, hRE.2.2.1, hRE.2.2.2.mono (by decide) (by decide)⟩
        · show Steps p.tables e below (T165.setTop (mkF m 110 #[.val (.int p1), .val (.int p2), .val (.int p3), .val (.int p4), .val (.ref mg), .val (.int kk), .val (.int c), .val (.int mu), .val (.int sel), .val (.ref ar113), .val (.int (Int32.ofNat pN)), .val (.int (own_L0.getD pN 0)), .val (.int (0 : Int32))] [(.ref x), (.ref mg)])) _
          refine st169.trans ?_
          show Steps p.tables e below (T169.setTop (mkF m 113 #[.val (.int p1), .val (.int p2), .val (.int p3), .val (.int p4), .val (.ref mg), .val (.int kk), .val (.int c), .val (.int mu), .val (.int sel), .val (.ref ar113), .val (.int (Int32.ofNat pN)), .val (.int (own_L0.getD pN 0)), .val (.int (0 : Int32))] [(.int (0 : Int32))])) _
          refine XS.iload X169.here hx rfl (hb hby at_113) rfl ?_
          show Steps p.tables e below (T169.setTop (mkF m 115 #[.val (.int p1), .val (.int p2), .val (.int p3), .val (.int p4), .val (.ref mg), .val (.int kk), .val (.int c), .val (.int mu), .val (.int sel), .val (.ref ar113), .val (.int (Int32.ofNat pN)), .val (.int (own_L0.getD pN 0)), .val (.int (0 : Int32))] [(.int (0 : Int32)), (.int (0 : Int32))])) _
          refine XS.icmpNo X169.here hx rfl (hb hby at_115) rfl (teq (rfl : (0 : Int32) = (0 : Int32))).2 ?_
          show Steps p.tables e below (T169.setTop (mkF m 118 #[.val (.int p1), .val (.int p2), .val (.int p3), .val (.int p4), .val (.ref mg), .val (.int kk), .val (.int c), .val (.int mu), .val (.int sel), .val (.ref ar113), .val (.int (Int32.ofNat pN)), .val (.int (own_L0.getD pN 0)), .val (.int (0 : Int32))] [])) _
          refine XS.iconst X169.here hx rfl (hb hby at_118) ?_
          show Steps p.tables e below (T169.setTop (mkF m 119 #[.val (.int p1), .val (.int p2), .val (.int p3), .val (.int p4), .val (.ref mg), .val (.int kk), .val (.int c), .val (.int mu), .val (.int sel), .val (.ref ar113), .val (.int (Int32.ofNat pN)), .val (.int (own_L0.getD pN 0)), .val (.int (0 : Int32))] [(.int (1 : Int32))])) _
          refine XS.goto X169.here hx rfl (pc0 := 119) (pc' := 123) rfl (hb hby at_119) (by decide) (by decide) ?_
          show Steps p.tables e below (T169.setTop (mkF m 123 #[.val (.int p1), .val (.int p2), .val (.int p3), .val (.int p4), .val (.ref mg), .val (.int kk), .val (.int c), .val (.int mu), .val (.int sel), .val (.ref ar113), .val (.int (Int32.ofNat pN)), .val (.int (own_L0.getD pN 0)), .val (.int (0 : Int32))] [(.int (1 : Int32))])) _
          exact retN X169 hx (t := .boolean) Bd.returns (by simp) (hb hby at_123) hr
        · show Q0 h0 n0 _ T169.heap _
          exact ⟨rfl, N169⟩
        · show CHr Z own_EL s.vm s.heap T169.vm T169.heap
          rw [hh]
          exact R172.trans (CHv.at X169 hZ hEL R172.1)
  · by_cases ek1 : kk = 1
    · have ek := ek1
      have Z_173 := (Nat.le_trans (Nat.le_trans Z0 K101.1) K104.1)
      obtain ⟨_, _, ⟨T174, L174, kk174, nn174⟩, -, X174, ⟨Lc174, hQ174, l174, y174, z174⟩, st174⟩ := Jvm.LawKit.callS X104 hx (y := (⟨"com/example/tramway/tramway/poa/TramwayPoaManagerIs_aPinLaw", "obj", "()[C"⟩ : MethodName)) hown (mvT hZ (hw _ (List.mem_of_getElem? (i := 66) rfl))) (mvT hZ (hw _ (List.mem_of_getElem? (i := 67) rfl))) (mvT hZ (hw _ (List.mem_of_getElem? (i := 17) rfl))) (mvT hZ (hw _ (List.mem_of_getElem? (i := 68) rfl))) (by decide) (backOf (W := 0) (rm_obj l Z a0 hw [] T104.heap n0 Z_173) hZ (hw _ (List.mem_of_getElem? (i := 68) rfl)) (hw _ (List.mem_of_getElem? (i := 17) rfl)) (by decide) (by decide)) (g := (mkF m 130 #[.val (.int p1), .val (.int p2), .val (.int p3), .val (.int p4), .val (.ref mg), .val (.int kk), .val (.int c), .val (.int mu), .val (.int sel), .unset, .unset, .unset, .unset] [])) rfl (by rw [hml]; rfl) (argsL := []) (rest := []) (lenOf pd____C rfl) rfl (by show 2 * 0 + _ ≤ _; exact Nat.le_of_eq rfl) (hb hby at_130) (fun _ _ => ⟨rfl, rfl, Nat.le_of_ble_eq_true rfl, Nat.le_of_ble_eq_true rfl⟩)
      dsimp only [Pt.U, Pt.locs, Pt.cells, Pt.slots] at X174 l174 y174 z174 st174 hQ174
      subst l174 y174 z174
      obtain ⟨ar174, ka174, rfl, Nq174, K174, g_ar174, le174, V_ar174⟩ := hQ174
      have N174 := Fr.app N104 Nq174
      have hs175 : ∀ sx_ ∈ ([] : List Addr), Safe Z own_EL s.vm T104.heap sx_ := all0
      have R175 := R105.trans (CHr.keep K174 hs175 R105.1)
      have lt_ar174 := V_ar174.lt
      have lt_mg_176 := (Nat.lt_of_lt_of_le lt_mg K104.1)
      have ne_mg_ar174 : mg ≠ ar174 := Nat.ne_of_lt (Nat.lt_of_lt_of_le lt_mg_176 le174)
      have go177 : ∀ tg_, Steps p.tables e below (T174.setTop (mkF m 142 #[.val (.int p1), .val (.int p2), .val (.int p3), .val (.int p4), .val (.ref mg), .val (.int kk), .val (.int c), .val (.int mu), .val (.int sel), .val (.ref ar174), .unset, .unset, .unset] [(.int ((p2 &&& (2147483647 : Int32)) % (28 : Int32)))])) tg_ → Steps p.tables e below (s₁.setTop (entryFrame m #[(.int p1), (.int p2), (.int p3), (.int p4)] maxLocals)) tg_ := fun tg_ k => go111 tg_ (by
          show Steps p.tables e below (T104.setTop (mkF m 46 #[.val (.int p1), .val (.int p2), .val (.int p3), .val (.int p4), .val (.ref mg), .val (.int kk), .val (.int c), .val (.int mu), .val (.int sel), .unset, .unset, .unset, .unset] [(.int kk)])) _
          refine XS.ifYes X104.here hx rfl (pc0 := 46) (pc' := 124) rfl (hb hby at_46) rfl ((if0 _ _).trans (feq (ek0 : ¬ (kk = (0 : Int32)))).2) (by decide) (by decide) ?_
          show Steps p.tables e below (T104.setTop (mkF m 124 #[.val (.int p1), .val (.int p2), .val (.int p3), .val (.int p4), .val (.ref mg), .val (.int kk), .val (.int c), .val (.int mu), .val (.int sel), .unset, .unset, .unset, .unset] [])) _
          refine XS.iload X104.here hx rfl (hb hby at_124) rfl ?_
          show Steps p.tables e below (T104.setTop (mkF m 126 #[.val (.int p1), .val (.int p2), .val (.int p3), .val (.int p4), .val (.ref mg), .val (.int kk), .val (.int c), .val (.int mu), .val (.int sel), .unset, .unset, .unset, .unset] [(.int kk)])) _
          refine XS.iconst X104.here hx rfl (hb hby at_126) ?_
          show Steps p.tables e below (T104.setTop (mkF m 127 #[.val (.int p1), .val (.int p2), .val (.int p3), .val (.int p4), .val (.ref mg), .val (.int kk), .val (.int c), .val (.int mu), .val (.int sel), .unset, .unset, .unset, .unset] [(.int (1 : Int32)), (.int kk)])) _
          refine XS.icmpNo X104.here hx rfl (hb hby at_127) rfl (teq (ek : kk = (1 : Int32))).2 ?_
          show Steps p.tables e below (T104.setTop (mkF m 130 #[.val (.int p1), .val (.int p2), .val (.int p3), .val (.int p4), .val (.ref mg), .val (.int kk), .val (.int c), .val (.int mu), .val (.int sel), .unset, .unset, .unset, .unset] [])) _
          refine st174 _ ?_
          show Steps p.tables e below (T174.setTop (mkF m 133 #[.val (.int p1), .val (.int p2), .val (.int p3), .val (.int p4), .val (.ref mg), .val (.int kk), .val (.int c), .val (.int mu), .val (.int sel), .unset, .unset, .unset, .unset] [(.ref ar174)])) _
          refine XS.astore X174.here hx rfl (hb hby at_133) rfl rfl (l' := #[.val (.int p1), .val (.int p2), .val (.int p3), .val (.int p4), .val (.ref mg), .val (.int kk), .val (.int c), .val (.int mu), .val (.int sel), .val (.ref ar174), .unset, .unset, .unset]) rfl ?_
          show Steps p.tables e below (T174.setTop (mkF m 135 #[.val (.int p1), .val (.int p2), .val (.int p3), .val (.int p4), .val (.ref mg), .val (.int kk), .val (.int c), .val (.int mu), .val (.int sel), .val (.ref ar174), .unset, .unset, .unset] [])) _
          refine XS.iloadN X174.here hx rfl (hb hby at_135) rfl ?_
          show Steps p.tables e below (T174.setTop (mkF m 136 #[.val (.int p1), .val (.int p2), .val (.int p3), .val (.int p4), .val (.ref mg), .val (.int kk), .val (.int c), .val (.int mu), .val (.int sel), .val (.ref ar174), .unset, .unset, .unset] [(.int p2)])) _
          refine X174.ldcInt hx hown (mvT hZ (hw _ (List.mem_of_getElem? (i := 14) rfl))) (g := (mkF m 136 #[.val (.int p1), .val (.int p2), .val (.int p3), .val (.int p4), .val (.ref mg), .val (.int kk), .val (.int c), .val (.int mu), .val (.int sel), .val (.ref ar174), .unset, .unset, .unset] [(.int p2)])) rfl (hb hby at_136) _ ?_
          show Steps p.tables e below (T174.setTop (mkF m 138 #[.val (.int p1), .val (.int p2), .val (.int p3), .val (.int p4), .val (.ref mg), .val (.int kk), .val (.int c), .val (.int mu), .val (.int sel), .val (.ref ar174), .unset, .unset, .unset] [(.int (2147483647 : Int32)), (.int p2)])) _
          refine XS.iand X174.here hx rfl (hb hby at_138) rfl ?_
          show Steps p.tables e below (T174.setTop (mkF m 139 #[.val (.int p1), .val (.int p2), .val (.int p3), .val (.int p4), .val (.ref mg), .val (.int kk), .val (.int c), .val (.int mu), .val (.int sel), .val (.ref ar174), .unset, .unset, .unset] [(.int (p2 &&& (2147483647 : Int32)))])) _
          refine XS.bipush X174.here hx rfl (hb hby at_139) ?_
          show Steps p.tables e below (T174.setTop (mkF m 141 #[.val (.int p1), .val (.int p2), .val (.int p3), .val (.int p4), .val (.ref mg), .val (.int kk), .val (.int c), .val (.int mu), .val (.int sel), .val (.ref ar174), .unset, .unset, .unset] [(.int (28 : Int32)), (.int (p2 &&& (2147483647 : Int32)))])) _
          refine Jvm.RoadKit.iremM X174 hx rfl (hb hby at_141) rfl (by decide) ?_
          show Steps p.tables e below (T174.setTop (mkF m 142 #[.val (.int p1), .val (.int p2), .val (.int p3), .val (.int p4), .val (.ref mg), .val (.int kk), .val (.int c), .val (.int mu), .val (.int sel), .val (.ref ar174), .unset, .unset, .unset] [(.int ((p2 &&& (2147483647 : Int32)) % (28 : Int32)))])) _
          exact k)
      obtain ⟨pN, hpN, e_p⟩ := own_idx28 p2
      rw [e_p] at go177
      obtain ⟨cl178, Ar178, q178, S178, M178, Hh178, G178⟩ := id V_ar174
      have hin178 : ¬ ((Int32.ofNat pN) < 0 ∨ cl178.slots.size ≤ ((Int32.ofNat pN)).toNatClampNeg) := inb_of S178 ⟨own_nn (by omega), own_lt32 (b := 28) hpN (by decide)⟩
      have hat178 : cl178.slots[((Int32.ofNat pN)).toNatClampNeg]? = some (.int (own_L1.getD pN 0)) := Has.at Hh178 hin178 (by rw [own_clamp (by omega)]; exact own_getv _ _ (by simp [own_L1]; omega))
      have go179 : ∀ tg_, Steps p.tables e below (T174.setTop (mkF m 153 #[.val (.int p1), .val (.int p2), .val (.int p3), .val (.int p4), .val (.ref mg), .val (.int kk), .val (.int c), .val (.int mu), .val (.int sel), .val (.ref ar174), .val (.int (Int32.ofNat pN)), .val (.int (own_L1.getD pN 0)), .unset] [(.int mu)])) tg_ → Steps p.tables e below (s₁.setTop (entryFrame m #[(.int p1), (.int p2), (.int p3), (.int p4)] maxLocals)) tg_ := fun tg_ k => go177 tg_ (by
          show Steps p.tables e below (T174.setTop (mkF m 142 #[.val (.int p1), .val (.int p2), .val (.int p3), .val (.int p4), .val (.ref mg), .val (.int kk), .val (.int c), .val (.int mu), .val (.int sel), .val (.ref ar174), .unset, .unset, .unset] [(.int (Int32.ofNat pN))])) _
          refine XS.istore X174.here hx rfl (hb hby at_142) rfl (l' := #[.val (.int p1), .val (.int p2), .val (.int p3), .val (.int p4), .val (.ref mg), .val (.int kk), .val (.int c), .val (.int mu), .val (.int sel), .val (.ref ar174), .val (.int (Int32.ofNat pN)), .unset, .unset]) rfl ?_
          show Steps p.tables e below (T174.setTop (mkF m 144 #[.val (.int p1), .val (.int p2), .val (.int p3), .val (.int p4), .val (.ref mg), .val (.int kk), .val (.int c), .val (.int mu), .val (.int sel), .val (.ref ar174), .val (.int (Int32.ofNat pN)), .unset, .unset] [])) _
          refine XS.aload X174.here hx rfl (hb hby at_144) rfl rfl ?_
          show Steps p.tables e below (T174.setTop (mkF m 146 #[.val (.int p1), .val (.int p2), .val (.int p3), .val (.int p4), .val (.ref mg), .val (.int kk), .val (.int c), .val (.int mu), .val (.int sel), .val (.ref ar174), .val (.int (Int32.ofNat pN)), .unset, .unset] [(.ref ar174)])) _
          refine XS.iload X174.here hx rfl (hb hby at_146) rfl ?_
          show Steps p.tables e below (T174.setTop (mkF m 148 #[.val (.int p1), .val (.int p2), .val (.int p3), .val (.int p4), .val (.ref mg), .val (.int kk), .val (.int c), .val (.int mu), .val (.int sel), .val (.ref ar174), .val (.int (Int32.ofNat pN)), .unset, .unset] [(.int (Int32.ofNat pN)), (.ref ar174)])) _
          refine X174.caload hx (j := (Int32.ofNat pN)) (v := (.int (own_L1.getD pN 0))) Ar178.1 (State.isArrayOf_alike hZ.alike Ar178.2.1) Ar178.2.2 hin178 hat178 (g := (mkF m 148 #[.val (.int p1), .val (.int p2), .val (.int p3), .val (.int p4), .val (.ref mg), .val (.int kk), .val (.int c), .val (.int mu), .val (.int sel), .val (.ref ar174), .val (.int (Int32.ofNat pN)), .unset, .unset] [(.int (Int32.ofNat pN)), (.ref ar174)])) rfl rfl (hb hby at_148) _ ?_
          show Steps p.tables e below (T174.setTop (mkF m 149 #[.val (.int p1), .val (.int p2), .val (.int p3), .val (.int p4), .val (.ref mg), .val (.int kk), .val (.int c), .val (.int mu), .val (.int sel), .val (.ref ar174), .val (.int (Int32.ofNat pN)), .unset, .unset] [(.int (own_L1.getD pN 0))])) _
          refine XS.istore X174.here hx rfl (hb hby at_149) rfl (l' := #[.val (.int p1), .val (.int p2), .val (.int p3), .val (.int p4), .val (.ref mg), .val (.int kk), .val (.int c), .val (.int mu), .val (.int sel), .val (.ref ar174), .val (.int (Int32.ofNat pN)), .val (.int (own_L1.getD pN 0)), .unset]) rfl ?_
          show Steps p.tables e below (T174.setTop (mkF m 151 #[.val (.int p1), .val (.int p2), .val (.int p3), .val (.int p4), .val (.ref mg), .val (.int kk), .val (.int c), .val (.int mu), .val (.int sel), .val (.ref ar174), .val (.int (Int32.ofNat pN)), .val (.int (own_L1.getD pN 0)), .unset] [])) _
          refine XS.iload X174.here hx rfl (hb hby at_151) rfl ?_
          exact k)
      by_cases hm : mu = 0
      · obtain ⟨cl180, Ar180, q180, S180, M180, Hh180, G180⟩ := id V_ar174
        have hin180 : ¬ ((Int32.ofNat pN) < 0 ∨ cl180.slots.size ≤ ((Int32.ofNat pN)).toNatClampNeg) := inb_of S180 ⟨own_nn (by omega), own_lt32 (b := 28) hpN (by decide)⟩
        have hat180 : cl180.slots[((Int32.ofNat pN)).toNatClampNeg]? = some (.int (own_L1.getD pN 0)) := Has.at Hh180 hin180 (by rw [own_clamp (by omega)]; exact own_getv _ _ (by simp [own_L1]; omega))
        obtain ⟨T181, h181, X181, e181, E181, A181, D181, -, st181⟩ := newO X174 hx hZ hown (hw _ (List.mem_of_getElem? (i := 20) rfl)) (hw _ (List.mem_of_getElem? (i := 21) rfl)) (hw _ (List.mem_of_getElem? (i := 22) rfl)) rfl (g := (mkF m 182 #[.val (.int p1), .val (.int p2), .val (.int p3), .val (.int p4), .val (.ref mg), .val (.int kk), .val (.int c), .val (.int mu), .val (.int sel), .val (.ref ar174), .val (.int (Int32.ofNat pN)), .val (.int (own_L1.getD pN 0)), .val (.int (1 : Int32))] [(.ref mg)])) rfl (hb hby at_182) (by decide) (by decide)
        obtain ⟨x, g181⟩ : ∃ z, z = T174.heap.size := ⟨_, rfl⟩
        rw [← g181] at A181 D181 st181
        have Z_182 := (Nat.le_trans Z_173 K174.1)
        have g_x : n0 ≤ x := Nat.le_trans Z_182 (Nat.le_of_eq g181.symm)
        have lt_mg_183 := (Nat.lt_of_lt_of_le lt_mg_176 K174.1)
        have ne_mg_x : mg ≠ x := (Nat.ne_of_lt (Nat.lt_of_lt_of_le lt_mg_183 (Nat.le_of_eq g181.symm)))
        have ne_ar174_x : ar174 ≠ x := (Nat.ne_of_lt (Nat.lt_of_lt_of_le lt_ar174 (Nat.le_of_eq g181.symm)))
        have F_coder_x : Fld Z h181 x "java/lang/String" "coder" "B" (.int (0 : Int32)) := D181 (Or.inr (hw _ (List.mem_of_getElem? (i := 44) rfl))) (ty := .byte) (by decide)
        have F_value_x : Fld Z h181 x "java/lang/String" "value" "[B" .null := D181 (Or.inr (hw _ (List.mem_of_getElem? (i := 46) rfl))) (ty := (.array .byte)) (by decide)
        have K181 : Keep T174.heap h181 [] := (Keep.refl _ []).ext E181
        have hs184 : ∀ sx_ ∈ ([] : List Addr), Safe Z own_EL s.vm T174.heap sx_ := all0
        have R184 := R175.trans (CHr.keep K181 hs184 R175.1)
        have lt_x : x < h181.size := A181.lt
        have sfx : Safe Z own_EL s.vm h181 x := own_safe_null hZ.alike A181 F_value_x (hw _ (List.mem_of_getElem? (i := 21) rfl))
        have Z_185 := (Nat.le_trans Z_182 K181.1)
        have O_186 := (((O_103.keep K104 (allS g_mg all0)).keep K174 all0).keep K181 all0)
        have V_ar174_187 := (V_ar174.keep K181 nin0)
        obtain ⟨_, _, ⟨T188, L188, kk188, nn188⟩, -, X188, ⟨Lc188, hQ188, l188, y188, z188⟩, st188⟩ := X181.specialBack hx (y := (⟨"java/lang/String", "<init>", "([C)V"⟩ : MethodName)) rfl hown (mvT hZ (hw _ (List.mem_of_getElem? (i := 23) rfl))) (mvT hZ (hw _ (List.mem_of_getElem? (i := 24) rfl))) (mvT hZ (hw _ (List.mem_of_getElem? (i := 25) rfl))) (by decide) (StrChars.Road.backV (W := 2) hZ hws (kI := 4) (hw _ (List.mem_of_getElem? (i := 21) rfl)) (cs := own_L1) (bs := (own_L1).map (fun c => c.toInt8.toInt32)) (n := 28) g_x Z_185 A181 F_value_x F_coder_x V_ar174_187 (O2.ext O_186.2) P5 (by simp [own_L0, own_L1]) rfl (by decide) (by decide) own_lr1 rfl (by decide) (by decide)) (g := (mkF m 188 #[.val (.int p1), .val (.int p2), .val (.int p3), .val (.int p4), .val (.ref mg), .val (.int kk), .val (.int c), .val (.int mu), .val (.int sel), .val (.ref ar174), .val (.int (Int32.ofNat pN)), .val (.int (own_L1.getD pN 0)), .val (.int (1 : Int32))] [(.ref ar174), (.ref x), (.ref x), (.ref mg)])) rfl (by rw [hml]; rfl) (Steps.refl _) (a := x) (argsL := [(.ref ar174)]) (rest := [(.ref x), (.ref mg)]) (lenOf pd___C_V rfl) rfl (by show 2 * 0 + _ ≤ _; exact Nat.le_of_eq rfl) (hb hby at_188) (fun _ _ => ⟨rfl, e181, Nat.le_of_ble_eq_true rfl, Nat.le_of_ble_eq_true rfl⟩)
        dsimp only [Pt.U, Pt.locs, Pt.cells, Pt.slots] at X188 l188 y188 z188 st188 hQ188
        subst l188 y188 z188
        obtain ⟨rfl, Nq188, K188, Eq188, Fc188, t188, kb188, g_t188, le188, nx188, Fv188, V_t188⟩ := hQ188
        have N188 := Fr.app N174 Nq188
        have hs189 : ∀ sx_ ∈ ([x] : List Addr), Safe Z own_EL s.vm h181 sx_ := (allS sfx all0)
        have R189 := R184.trans (CHr.keep K188 hs189 R184.1)
        have V_t188_ : Arv Z T188.heap t188 kb188 .byte (Int32.ofNat (own_L1).length) (((own_L1).map (fun c => c.toInt8.toInt32)).map Value.int) (.int (0 : Int32)) := by
          have e : (own_L1).length = 28 := by simp [own_L0, own_L1]
          rw [e]; exact V_t188
        have O_190 := (O_186.keep K188 (allS g_x all0))
        obtain ⟨r, hr1, rt⟩ := rmIA l Z a0 hw [] mg x t188 kb188 own_L1 G1 T188.heap n0 Eq188 Fv188 Fc188 V_t188_ own_lr1 (by simp [own_L0, own_L1, own_L2, own_L3, own_L4]) O2 P5 O_190
        obtain rfl : r = 1 := by
          rcases hr1 with ⟨h, -⟩ | ⟨-, h⟩
          · exact h
          · exact absurd (Or.inr rfl) h
        have E_mg_191 := (((Em104.keep K174).keep K181).keep K188)
        have HK_193 := (Nat.le_trans (Nat.le_trans (Nat.le_trans (Nat.le_trans (Nat.le_trans hk0 K101.1) K104.1) K174.1) K181.1) K188.1)
        have go194 : ∀ tg_, Steps p.tables e below (T188.setTop (mkF m 191 #[.val (.int p1), .val (.int p2), .val (.int p3), .val (.int p4), .val (.ref mg), .val (.int kk), .val (.int c), .val (.int mu), .val (.int sel), .val (.ref ar174), .val (.int (Int32.ofNat pN)), .val (.int (own_L1.getD pN 0)), .val (.int (1 : Int32))] [(.ref x), (.ref mg)])) tg_ → Steps p.tables e below (s₁.setTop (entryFrame m #[(.int p1), (.int p2), (.int p3), (.int p4)] maxLocals)) tg_ := fun tg_ k => go179 tg_ (by
            show Steps p.tables e below (T174.setTop (mkF m 153 #[.val (.int p1), .val (.int p2), .val (.int p3), .val (.int p4), .val (.ref mg), .val (.int kk), .val (.int c), .val (.int mu), .val (.int sel), .val (.ref ar174), .val (.int (Int32.ofNat pN)), .val (.int (own_L1.getD pN 0)), .unset] [(.int mu)])) _
            refine XS.ifYes X174.here hx rfl (pc0 := 153) (pc' := 163) rfl (hb hby at_153) rfl ((if0 _ _).trans (teq (hm : mu = (0 : Int32))).1) (by decide) (by decide) ?_
            show Steps p.tables e below (T174.setTop (mkF m 163 #[.val (.int p1), .val (.int p2), .val (.int p3), .val (.int p4), .val (.ref mg), .val (.int kk), .val (.int c), .val (.int mu), .val (.int sel), .val (.ref ar174), .val (.int (Int32.ofNat pN)), .val (.int (own_L1.getD pN 0)), .unset] [])) _
            refine XS.aload X174.here hx rfl (hb hby at_163) rfl rfl ?_
            show Steps p.tables e below (T174.setTop (mkF m 165 #[.val (.int p1), .val (.int p2), .val (.int p3), .val (.int p4), .val (.ref mg), .val (.int kk), .val (.int c), .val (.int mu), .val (.int sel), .val (.ref ar174), .val (.int (Int32.ofNat pN)), .val (.int (own_L1.getD pN 0)), .unset] [(.ref ar174)])) _
            refine XS.iload X174.here hx rfl (hb hby at_165) rfl ?_
            show Steps p.tables e below (T174.setTop (mkF m 167 #[.val (.int p1), .val (.int p2), .val (.int p3), .val (.int p4), .val (.ref mg), .val (.int kk), .val (.int c), .val (.int mu), .val (.int sel), .val (.ref ar174), .val (.int (Int32.ofNat pN)), .val (.int (own_L1.getD pN 0)), .unset] [(.int (Int32.ofNat pN)), (.ref ar174)])) _
            refine X174.caload hx (j := (Int32.ofNat pN)) (v := (.int (own_L1.getD pN 0))) Ar180.1 (State.isArrayOf_alike hZ.alike Ar180.2.1) Ar180.2.2 hin180 hat180 (g := (mkF m 167 #[.val (.int p1), .val (.int p2), .val (.int p3), .val (.int p4), .val (.ref mg), .val (.int kk), .val (.int c), .val (.int mu), .val (.int sel), .val (.ref ar174), .val (.int (Int32.ofNat pN)), .val (.int (own_L1.getD pN 0)), .unset] [(.int (Int32.ofNat pN)), (.ref ar174)])) rfl rfl (hb hby at_167) _ ?_
            show Steps p.tables e below (T174.setTop (mkF m 168 #[.val (.int p1), .val (.int p2), .val (.int p3), .val (.int p4), .val (.ref mg), .val (.int kk), .val (.int c), .val (.int mu), .val (.int sel), .val (.ref ar174), .val (.int (Int32.ofNat pN)), .val (.int (own_L1.getD pN 0)), .unset] [(.int (own_L1.getD pN 0))])) _
            refine XS.iload X174.here hx rfl (hb hby at_168) rfl ?_
            show Steps p.tables e below (T174.setTop (mkF m 170 #[.val (.int p1), .val (.int p2), .val (.int p3), .val (.int p4), .val (.ref mg), .val (.int kk), .val (.int c), .val (.int mu), .val (.int sel), .val (.ref ar174), .val (.int (Int32.ofNat pN)), .val (.int (own_L1.getD pN 0)), .unset] [(.int (own_L1.getD pN 0)), (.int (own_L1.getD pN 0))])) _
            refine XS.icmpNo X174.here hx rfl (hb hby at_170) rfl (teq (rfl : (own_L1.getD pN 0) = (own_L1.getD pN 0))).2 ?_
            show Steps p.tables e below (T174.setTop (mkF m 173 #[.val (.int p1), .val (.int p2), .val (.int p3), .val (.int p4), .val (.ref mg), .val (.int kk), .val (.int c), .val (.int mu), .val (.int sel), .val (.ref ar174), .val (.int (Int32.ofNat pN)), .val (.int (own_L1.getD pN 0)), .unset] [])) _
            refine XS.iconst X174.here hx rfl (hb hby at_173) ?_
            show Steps p.tables e below (T174.setTop (mkF m 174 #[.val (.int p1), .val (.int p2), .val (.int p3), .val (.int p4), .val (.ref mg), .val (.int kk), .val (.int c), .val (.int mu), .val (.int sel), .val (.ref ar174), .val (.int (Int32.ofNat pN)), .val (.int (own_L1.getD pN 0)), .unset] [(.int (1 : Int32))])) _
            refine XS.goto X174.here hx rfl (pc0 := 174) (pc' := 178) rfl (hb hby at_174) (by decide) (by decide) ?_
            show Steps p.tables e below (T174.setTop (mkF m 178 #[.val (.int p1), .val (.int p2), .val (.int p3), .val (.int p4), .val (.ref mg), .val (.int kk), .val (.int c), .val (.int mu), .val (.int sel), .val (.ref ar174), .val (.int (Int32.ofNat pN)), .val (.int (own_L1.getD pN 0)), .unset] [(.int (1 : Int32))])) _
            refine XS.istore X174.here hx rfl (hb hby at_178) rfl (l' := #[.val (.int p1), .val (.int p2), .val (.int p3), .val (.int p4), .val (.ref mg), .val (.int kk), .val (.int c), .val (.int mu), .val (.int sel), .val (.ref ar174), .val (.int (Int32.ofNat pN)), .val (.int (own_L1.getD pN 0)), .val (.int (1 : Int32))]) rfl ?_
            show Steps p.tables e below (T174.setTop (mkF m 180 #[.val (.int p1), .val (.int p2), .val (.int p3), .val (.int p4), .val (.ref mg), .val (.int kk), .val (.int c), .val (.int mu), .val (.int sel), .val (.ref ar174), .val (.int (Int32.ofNat pN)), .val (.int (own_L1.getD pN 0)), .val (.int (1 : Int32))] [])) _
            refine XS.aload X174.here hx rfl (hb hby at_180) rfl rfl ?_
            show Steps p.tables e below (T174.setTop (mkF m 182 #[.val (.int p1), .val (.int p2), .val (.int p3), .val (.int p4), .val (.ref mg), .val (.int kk), .val (.int c), .val (.int mu), .val (.int sel), .val (.ref ar174), .val (.int (Int32.ofNat pN)), .val (.int (own_L1.getD pN 0)), .val (.int (1 : Int32))] [(.ref mg)])) _
            refine st181 _ ?_
            show Steps p.tables e below (T181.setTop (mkF m 185 #[.val (.int p1), .val (.int p2), .val (.int p3), .val (.int p4), .val (.ref mg), .val (.int kk), .val (.int c), .val (.int mu), .val (.int sel), .val (.ref ar174), .val (.int (Int32.ofNat pN)), .val (.int (own_L1.getD pN 0)), .val (.int (1 : Int32))] [(.ref x), (.ref mg)])) _
            refine XS.dup X181.here hx rfl (hb hby at_185) rfl rfl ?_
            show Steps p.tables e below (T181.setTop (mkF m 186 #[.val (.int p1), .val (.int p2), .val (.int p3), .val (.int p4), .val (.ref mg), .val (.int kk), .val (.int c), .val (.int mu), .val (.int sel), .val (.ref ar174), .val (.int (Int32.ofNat pN)), .val (.int (own_L1.getD pN 0)), .val (.int (1 : Int32))] [(.ref x), (.ref x), (.ref mg)])) _
            refine XS.aload X181.here hx rfl (hb hby at_186) rfl rfl ?_
            show Steps p.tables e below (T181.setTop (mkF m 188 #[.val (.int p1), .val (.int p2), .val (.int p3), .val (.int p4), .val (.ref mg), .val (.int kk), .val (.int c), .val (.int mu), .val (.int sel), .val (.ref ar174), .val (.int (Int32.ofNat pN)), .val (.int (own_L1.getD pN 0)), .val (.int (1 : Int32))] [(.ref ar174), (.ref x), (.ref x), (.ref mg)])) _
            refine st188.trans ?_
            exact k)
        obtain ⟨cq192, kq192, q192a, q192b, q192c⟩ := isOf hZ rfl E_mg_191
        obtain ⟨_, _, ⟨T192, L192, kk192, nn192⟩, -, Y192, hT192, gr192, ⟨Lc192, hQ192, l192, y192, z192, C192⟩, st192⟩ := X188.virtualBackS hx (y := (⟨"com/example/tramway/tramway/poa/TramwayPoaManager", "_is_a", "(Ljava/lang/String;)Z"⟩ : MethodName)) (z := (⟨"com/example/tramway/tramway/poa/TramwayPoaManager", "_is_a", "(Ljava/lang/String;)Z"⟩ : MethodName)) hown (mvT hZ (hw _ (List.mem_of_getElem? (i := 47) rfl))) (mvT hZ (hw _ (List.mem_of_getElem? (i := 48) rfl))) (notFace_of_selects (args := #[]) (mvT hZ (hw _ (List.mem_of_getElem? (i := 50) rfl)))) (mvT hZ (hw _ (List.mem_of_getElem? (i := 50) rfl))) (mvT hZ (hw _ (List.mem_of_getElem? (i := 49) rfl))) (by decide) (backOfSH (W := 0) (rt) hZ (hw _ (List.mem_of_getElem? (i := 51) rfl)) (hw _ (List.mem_of_getElem? (i := 2) rfl)) (by decide) (by decide) hEL R189.1) q192a q192c (g := (mkF m 191 #[.val (.int p1), .val (.int p2), .val (.int p3), .val (.int p4), .val (.ref mg), .val (.int kk), .val (.int c), .val (.int mu), .val (.int sel), .val (.ref ar174), .val (.int (Int32.ofNat pN)), .val (.int (own_L1.getD pN 0)), .val (.int (1 : Int32))] [(.ref x), (.ref mg)])) rfl (by rw [hml]; rfl) (Steps.refl _) (argsL := [(.ref x)]) (rest := []) (lenOf pd__Ljava_lang_String__Z rfl) rfl (by show 2 * 0 + _ ≤ _; exact Nat.le_of_eq rfl) (hb hby at_191) (fun _ _ => ⟨rfl, rfl, Nat.le_of_ble_eq_true rfl, Nat.le_of_ble_eq_true rfl⟩)
        dsimp only [Pt.U, Pt.locs, Pt.cells, Pt.slots] at Y192 hT192 gr192 l192 y192 z192 C192 st192 hQ192
        subst l192 y192 z192
        obtain ⟨X192, hS192, hZ, hown⟩ := rebS hS0 HK_193 Y192 hT192 gr192 hZ hown
        have hk192 := Nat.le_refl T192.heap.size
        obtain ⟨rfl, Nq192, K192⟩ := hQ192
        have N192 := Fr.app N188 Nq192
        have R195 := R189.trans C192
        obtain ⟨fs, hr, hrun, hended, hRE⟩ := X192.leaveW hS192 hk192 (v := some (.int (1 : Int32))) (fun h => by rw [Bd.returns] at h; cases h)
        refine ⟨_, _, go194 _ ?_, hrun, hended, _, _, rfl, ?_, ?_, hRE.1, hRE.2.1, hRE.2.2.1, hRE.2.2.2.mono (by decide) (by decide)⟩
        · show Steps p.tables e below (T188.setTop (mkF m 191 #[.val (.int p1), .val (.int p2), .val (.int p3), .val (.int p4), .val (.ref mg), .val (.int kk), .val (.int c), .val (.int mu), .val (.int sel), .val (.ref ar174), .val (.int (Int32.ofNat pN)), .val (.int (own_L1.getD pN 0)), .val (.int (1 : Int32))] [(.ref x), (.ref mg)])) _
          refine st192.trans ?_
          show Steps p.tables e below (T192.setTop (mkF m 194 #[.val (.int p1), .val (.int p2), .val (.int p3), .val (.int p4), .val (.ref mg), .val (.int kk), .val (.int c), .val (.int mu), .val (.int sel), .val (.ref ar174), .val (.int (Int32.ofNat pN)), .val (.int (own_L1.getD pN 0)), .val (.int (1 : Int32))] [(.int (1 : Int32))])) _
          refine XS.iload X192.here hx rfl (hb hby at_194) rfl ?_
          show Steps p.tables e below (T192.setTop (mkF m 196 #[.val (.int p1), .val (.int p2), .val (.int p3), .val (.int p4), .val (.ref mg), .val (.int kk), .val (.int c), .val (.int mu), .val (.int sel), .val (.ref ar174), .val (.int (Int32.ofNat pN)), .val (.int (own_L1.getD pN 0)), .val (.int (1 : Int32))] [(.int (1 : Int32)), (.int (1 : Int32))])) _
          refine XS.icmpNo X192.here hx rfl (hb hby at_196) rfl (teq (rfl : (1 : Int32) = (1 : Int32))).2 ?_
          show Steps p.tables e below (T192.setTop (mkF m 199 #[.val (.int p1), .val (.int p2), .val (.int p3), .val (.int p4), .val (.ref mg), .val (.int kk), .val (.int c), .val (.int mu), .val (.int sel), .val (.ref ar174), .val (.int (Int32.ofNat pN)), .val (.int (own_L1.getD pN 0)), .val (.int (1 : Int32))] [])) _
          refine XS.iconst X192.here hx rfl (hb hby at_199) ?_
          show Steps p.tables e below (T192.setTop (mkF m 200 #[.val (.int p1), .val (.int p2), .val (.int p3), .val (.int p4), .val (.ref mg), .val (.int kk), .val (.int c), .val (.int mu), .val (.int sel), .val (.ref ar174), .val (.int (Int32.ofNat pN)), .val (.int (own_L1.getD pN 0)), .val (.int (1 : Int32))] [(.int (1 : Int32))])) _
          refine XS.goto X192.here hx rfl (pc0 := 200) (pc' := 204) rfl (hb hby at_200) (by decide) (by decide) ?_
          show Steps p.tables e below (T192.setTop (mkF m 204 #[.val (.int p1), .val (.int p2), .val (.int p3), .val (.int p4), .val (.ref mg), .val (.int kk), .val (.int c), .val (.int mu), .val (.int sel), .val (.ref ar174), .val (.int (Int32.ofNat pN)), .val (.int (own_L1.getD pN 0)), .val (.int (1 : Int32))] [(.int (1 : Int32))])) _
          exact retN X192 hx (t := .boolean) Bd.returns (by simp) (hb hby at_204) hr
        · show Q0 h0 n0 _ T192.heap _
          exact ⟨rfl, N192⟩
        · show CHr Z own_EL s.vm s.heap T192.vm T192.heap
          rw [hh]
          exact R195.trans (CHv.at X192 hZ hEL R195.1)
      · by_cases hs : c = own_L1.getD pN 0
        · obtain ⟨cl196, Ar196, q196, S196, M196, Hh196, G196⟩ := id V_ar174
          obtain ⟨T196, h196, X196, e196, W196, st196⟩ := stC X174 hx hZ rfl Ar196 (j := (Int32.ofNat pN)) (inb_of S196 ⟨own_nn (by omega), own_lt32 (b := 28) hpN (by decide)⟩) (g := (mkF m 162 #[.val (.int p1), .val (.int p2), .val (.int p3), .val (.int p4), .val (.ref mg), .val (.int kk), .val (.int c), .val (.int mu), .val (.int sel), .val (.ref ar174), .val (.int (Int32.ofNat pN)), .val (.int (own_L1.getD pN 0)), .unset] [(.int c), (.int (Int32.ofNat pN)), (.ref ar174)])) rfl rfl (hb hby at_162)
          have V_ar174_196 : Arv Z h196 ar174 ka174 .char (28 : Int32) ((own_L1.set pN c).map Value.int) (.int (0 : Int32)) := (own_setv own_L1 pN c rc.2.2) ▸ (Arv.set Ar196 q196 S196 M196 Hh196 G196 (fits_nar_char _) W196 pN (own_clamp (by omega)) (by simp [own_L1]; omega))
          have K196 : Keep T174.heap h196 [ar174] := Keep.of_wr W196
          have hs197 : ∀ sx_ ∈ ([ar174] : List Addr), Safe Z own_EL s.vm T174.heap sx_ := (allS (Safe.arr hZ.alike Ar196 (by decide)) all0)
          have R197 := R175.trans (CHr.keep K196 hs197 R175.1)
          have N196 := Fr.snoc X196 N174 g_ar174
          obtain ⟨cl198, Ar198, q198, S198, M198, Hh198, G198⟩ := id V_ar174_196
          have hin198 : ¬ ((Int32.ofNat pN) < 0 ∨ cl198.slots.size ≤ ((Int32.ofNat pN)).toNatClampNeg) := inb_of S198 ⟨own_nn (by omega), own_lt32 (b := 28) hpN (by decide)⟩
          have hat198 : cl198.slots[((Int32.ofNat pN)).toNatClampNeg]? = some (.int c) := Has.at Hh198 hin198 (by rw [own_clamp (by omega)]; exact own_getset _ _ _ (by simp [own_L1]; omega))
          obtain ⟨T199, h199, X199, e199, E199, A199, D199, -, st199⟩ := newO X196 hx hZ hown (hw _ (List.mem_of_getElem? (i := 20) rfl)) (hw _ (List.mem_of_getElem? (i := 21) rfl)) (hw _ (List.mem_of_getElem? (i := 22) rfl)) e196 (g := (mkF m 182 #[.val (.int p1), .val (.int p2), .val (.int p3), .val (.int p4), .val (.ref mg), .val (.int kk), .val (.int c), .val (.int mu), .val (.int sel), .val (.ref ar174), .val (.int (Int32.ofNat pN)), .val (.int (own_L1.getD pN 0)), .val (.int (1 : Int32))] [(.ref mg)])) rfl (hb hby at_182) (by decide) (by decide)
          obtain ⟨x, g199⟩ : ∃ z, z = h196.size := ⟨_, rfl⟩
          rw [← g199] at A199 D199 st199
          have Z_200 := (Nat.le_trans (Nat.le_trans Z_173 K174.1) K196.1)
          have g_x : n0 ≤ x := Nat.le_trans Z_200 (Nat.le_of_eq g199.symm)
          have lt_mg_201 := (Nat.lt_of_lt_of_le (Nat.lt_of_lt_of_le lt_mg_176 K174.1) K196.1)
          have ne_mg_x : mg ≠ x := (Nat.ne_of_lt (Nat.lt_of_lt_of_le lt_mg_201 (Nat.le_of_eq g199.symm)))
          have lt_ar174_202 := (Nat.lt_of_lt_of_le lt_ar174 K196.1)
          have ne_ar174_x : ar174 ≠ x := (Nat.ne_of_lt (Nat.lt_of_lt_of_le lt_ar174_202 (Nat.le_of_eq g199.symm)))
          have F_coder_x : Fld Z h199 x "java/lang/String" "coder" "B" (.int (0 : Int32)) := D199 (Or.inr (hw _ (List.mem_of_getElem? (i := 44) rfl))) (ty := .byte) (by decide)
          have F_value_x : Fld Z h199 x "java/lang/String" "value" "[B" .null := D199 (Or.inr (hw _ (List.mem_of_getElem? (i := 46) rfl))) (ty := (.array .byte)) (by decide)
          have K199 : Keep h196 h199 [] := (Keep.refl _ []).ext E199
          have hs203 : ∀ sx_ ∈ ([] : List Addr), Safe Z own_EL s.vm h196 sx_ := all0
          have R203 := R197.trans (CHr.keep K199 hs203 R197.1)
          have lt_x : x < h199.size := A199.lt
          have sfx : Safe Z own_EL s.vm h199 x := own_safe_null hZ.alike A199 F_value_x (hw _ (List.mem_of_getElem? (i := 21) rfl))
          have Z_204 := (Nat.le_trans Z_200 K199.1)
          have O_205 := ((((O_103.keep K104 (allS g_mg all0)).keep K174 all0).keep K196 (allS g_ar174 all0)).keep K199 all0)
          have V_ar174_206 := (V_ar174_196.keep K199 nin0)
          obtain ⟨_, _, ⟨T207, L207, kk207, nn207⟩, -, X207, ⟨Lc207, hQ207, l207, y207, z207⟩, st207⟩ := X199.specialBack hx (y := (⟨"java/lang/String", "<init>", "([C)V"⟩ : MethodName)) rfl hown (mvT hZ (hw _ (List.mem_of_getElem? (i := 23) rfl))) (mvT hZ (hw _ (List.mem_of_getElem? (i := 24) rfl))) (mvT hZ (hw _ (List.mem_of_getElem? (i := 25) rfl))) (by decide) (StrChars.Road.backV (W := 2) hZ hws (kI := 4) (hw _ (List.mem_of_getElem? (i := 21) rfl)) (cs := (own_L1.set pN c)) (bs := ((own_L1.set pN c)).map (fun c => c.toInt8.toInt32)) (n := 28) g_x Z_204 A199 F_value_x F_coder_x V_ar174_206 (O2.ext O_205.2) P5 (by simp [own_L0, own_L1]) rfl (by decide) (by decide) (own_set_rng own_lr1 ⟨rc.2.2 ▸ rc.1, rc.2.2 ▸ rc.2.1⟩) rfl (by decide) (by decide)) (g := (mkF m 188 #[.val (.int p1), .val (.int p2), .val (.int p3), .val (.int p4), .val (.ref mg), .val (.int kk), .val (.int c), .val (.int mu), .val (.int sel), .val (.ref ar174), .val (.int (Int32.ofNat pN)), .val (.int (own_L1.getD pN 0)), .val (.int (1 : Int32))] [(.ref ar174), (.ref x), (.ref x), (.ref mg)])) rfl (by rw [hml]; rfl) (Steps.refl _) (a := x) (argsL := [(.ref ar174)]) (rest := [(.ref x), (.ref mg)]) (lenOf pd___C_V rfl) rfl (by show 2 * 0 + _ ≤ _; exact Nat.le_of_eq rfl) (hb hby at_188) (fun _ _ => ⟨rfl, e199, Nat.le_of_ble_eq_true rfl, Nat.le_of_ble_eq_true rfl⟩)
          dsimp only [Pt.U, Pt.locs, Pt.cells, Pt.slots] at X207 l207 y207 z207 st207 hQ207
          subst l207 y207 z207
          obtain ⟨rfl, Nq207, K207, Eq207, Fc207, t207, kb207, g_t207, le207, nx207, Fv207, V_t207⟩ := hQ207
          have N207 := Fr.app N196 Nq207
          have hs208 : ∀ sx_ ∈ ([x] : List Addr), Safe Z own_EL s.vm h199 sx_ := (allS sfx all0)
          have R208 := R203.trans (CHr.keep K207 hs208 R203.1)
          have V_t207_ : Arv Z T207.heap t207 kb207 .byte (Int32.ofNat ((own_L1.set pN c)).length) ((((own_L1.set pN c)).map (fun c => c.toInt8.toInt32)).map Value.int) (.int (0 : Int32)) := by
            have e : ((own_L1.set pN c)).length = 28 := by simp [own_L0, own_L1]
            rw [e]; exact V_t207
          have O_209 := (O_205.keep K207 (allS g_x all0))
          obtain ⟨r, hr1, rt⟩ := rmIA l Z a0 hw [] mg x t207 kb207 (own_L1.set pN c) G1 T207.heap n0 Eq207 Fv207 Fc207 V_t207_ (own_set_rng own_lr1 ⟨rc.2.2 ▸ rc.1, rc.2.2 ▸ rc.2.1⟩) (by simp [own_L0, own_L1, own_L2, own_L3, own_L4]) O2 P5 O_209
          obtain rfl : r = 1 := by
            rcases hr1 with ⟨h, -⟩ | ⟨-, h⟩
            · exact h
            · exact absurd (Or.inr (own_set_same own_L1 pN c (by simp [own_L1]; omega) hs)) h
          have E_mg_210 := ((((Em104.keep K174).keep K196).keep K199).keep K207)
          have HK_212 := (Nat.le_trans (Nat.le_trans (Nat.le_trans (Nat.le_trans (Nat.le_trans (Nat.le_trans hk0 K101.1) K104.1) K174.1) K196.1) K199.1) K207.1)
          have go213 : ∀ tg_, Steps p.tables e below (T207.setTop (mkF m 191 #[.val (.int p1), .val (.int p2), .val (.int p3), .val (.int p4), .val (.ref mg), .val (.int kk), .val (.int c), .val (.int mu), .val (.int sel), .val (.ref ar174), .val (.int (Int32.ofNat pN)), .val (.int (own_L1.getD pN 0)), .val (.int (1 : Int32))] [(.ref x), (.ref mg)])) tg_ → Steps p.tables e below (s₁.setTop (entryFrame m #[(.int p1), (.int p2), (.int p3), (.int p4)] maxLocals)) tg_ := fun tg_ k => go179 tg_ (by
              show Steps p.tables e below (T174.setTop (mkF m 153 #[.val (.int p1), .val (.int p2), .val (.int p3), .val (.int p4), .val (.ref mg), .val (.int kk), .val (.int c), .val (.int mu), .val (.int sel), .val (.ref ar174), .val (.int (Int32.ofNat pN)), .val (.int (own_L1.getD pN 0)), .unset] [(.int mu)])) _
              refine XS.ifNo X174.here hx rfl (hb hby at_153) rfl ((if0 _ _).trans (feq (hm : ¬ (mu = (0 : Int32)))).1) ?_
              show Steps p.tables e below (T174.setTop (mkF m 156 #[.val (.int p1), .val (.int p2), .val (.int p3), .val (.int p4), .val (.ref mg), .val (.int kk), .val (.int c), .val (.int mu), .val (.int sel), .val (.ref ar174), .val (.int (Int32.ofNat pN)), .val (.int (own_L1.getD pN 0)), .unset] [])) _
              refine XS.aload X174.here hx rfl (hb hby at_156) rfl rfl ?_
              show Steps p.tables e below (T174.setTop (mkF m 158 #[.val (.int p1), .val (.int p2), .val (.int p3), .val (.int p4), .val (.ref mg), .val (.int kk), .val (.int c), .val (.int mu), .val (.int sel), .val (.ref ar174), .val (.int (Int32.ofNat pN)), .val (.int (own_L1.getD pN 0)), .unset] [(.ref ar174)])) _
              refine XS.iload X174.here hx rfl (hb hby at_158) rfl ?_
              show Steps p.tables e below (T174.setTop (mkF m 160 #[.val (.int p1), .val (.int p2), .val (.int p3), .val (.int p4), .val (.ref mg), .val (.int kk), .val (.int c), .val (.int mu), .val (.int sel), .val (.ref ar174), .val (.int (Int32.ofNat pN)), .val (.int (own_L1.getD pN 0)), .unset] [(.int (Int32.ofNat pN)), (.ref ar174)])) _
              refine XS.iload X174.here hx rfl (hb hby at_160) rfl ?_
              show Steps p.tables e below (T174.setTop (mkF m 162 #[.val (.int p1), .val (.int p2), .val (.int p3), .val (.int p4), .val (.ref mg), .val (.int kk), .val (.int c), .val (.int mu), .val (.int sel), .val (.ref ar174), .val (.int (Int32.ofNat pN)), .val (.int (own_L1.getD pN 0)), .unset] [(.int c), (.int (Int32.ofNat pN)), (.ref ar174)])) _
              refine st196 _ ?_
              show Steps p.tables e below (T196.setTop (mkF m 163 #[.val (.int p1), .val (.int p2), .val (.int p3), .val (.int p4), .val (.ref mg), .val (.int kk), .val (.int c), .val (.int mu), .val (.int sel), .val (.ref ar174), .val (.int (Int32.ofNat pN)), .val (.int (own_L1.getD pN 0)), .unset] [])) _
              refine XS.aload X196.here hx rfl (hb hby at_163) rfl rfl ?_
              show Steps p.tables e below (T196.setTop (mkF m 165 #[.val (.int p1), .val (.int p2), .val (.int p3), .val (.int p4), .val (.ref mg), .val (.int kk), .val (.int c), .val (.int mu), .val (.int sel), .val (.ref ar174), .val (.int (Int32.ofNat pN)), .val (.int (own_L1.getD pN 0)), .unset] [(.ref ar174)])) _
              refine XS.iload X196.here hx rfl (hb hby at_165) rfl ?_
              show Steps p.tables e below (T196.setTop (mkF m 167 #[.val (.int p1), .val (.int p2), .val (.int p3), .val (.int p4), .val (.ref mg), .val (.int kk), .val (.int c), .val (.int mu), .val (.int sel), .val (.ref ar174), .val (.int (Int32.ofNat pN)), .val (.int (own_L1.getD pN 0)), .unset] [(.int (Int32.ofNat pN)), (.ref ar174)])) _
              refine X196.caload hx (j := (Int32.ofNat pN)) (v := (.int c)) (by rw [e196]; exact Ar198.1) (State.isArrayOf_alike hZ.alike Ar198.2.1) Ar198.2.2 hin198 hat198 (g := (mkF m 167 #[.val (.int p1), .val (.int p2), .val (.int p3), .val (.int p4), .val (.ref mg), .val (.int kk), .val (.int c), .val (.int mu), .val (.int sel), .val (.ref ar174), .val (.int (Int32.ofNat pN)), .val (.int (own_L1.getD pN 0)), .unset] [(.int (Int32.ofNat pN)), (.ref ar174)])) rfl rfl (hb hby at_167) _ ?_
              show Steps p.tables e below (T196.setTop (mkF m 168 #[.val (.int p1), .val (.int p2), .val (.int p3), .val (.int p4), .val (.ref mg), .val (.int kk), .val (.int c), .val (.int mu), .val (.int sel), .val (.ref ar174), .val (.int (Int32.ofNat pN)), .val (.int (own_L1.getD pN 0)), .unset] [(.int c)])) _
              refine XS.iload X196.here hx rfl (hb hby at_168) rfl ?_
              show Steps p.tables e below (T196.setTop (mkF m 170 #[.val (.int p1), .val (.int p2), .val (.int p3), .val (.int p4), .val (.ref mg), .val (.int kk), .val (.int c), .val (.int mu), .val (.int sel), .val (.ref ar174), .val (.int (Int32.ofNat pN)), .val (.int (own_L1.getD pN 0)), .unset] [(.int (own_L1.getD pN 0)), (.int c)])) _
              refine XS.icmpNo X196.here hx rfl (hb hby at_170) rfl (teq (hs : c = (own_L1.getD pN 0))).2 ?_
              show Steps p.tables e below (T196.setTop (mkF m 173 #[.val (.int p1), .val (.int p2), .val (.int p3), .val (.int p4), .val (.ref mg), .val (.int kk), .val (.int c), .val (.int mu), .val (.int sel), .val (.ref ar174), .val (.int (Int32.ofNat pN)), .val (.int (own_L1.getD pN 0)), .unset] [])) _
              refine XS.iconst X196.here hx rfl (hb hby at_173) ?_
              show Steps p.tables e below (T196.setTop (mkF m 174 #[.val (.int p1), .val (.int p2), .val (.int p3), .val (.int p4), .val (.ref mg), .val (.int kk), .val (.int c), .val (.int mu), .val (.int sel), .val (.ref ar174), .val (.int (Int32.ofNat pN)), .val (.int (own_L1.getD pN 0)), .unset] [(.int (1 : Int32))])) _
              refine XS.goto X196.here hx rfl (pc0 := 174) (pc' := 178) rfl (hb hby at_174) (by decide) (by decide) ?_
              show Steps p.tables e below (T196.setTop (mkF m 178 #[.val (.int p1), .val (.int p2), .val (.int p3), .val (.int p4), .val (.ref mg), .val (.int kk), .val (.int c), .val (.int mu), .val (.int sel), .val (.ref ar174), .val (.int (Int32.ofNat pN)), .val (.int (own_L1.getD pN 0)), .unset] [(.int (1 : Int32))])) _
              refine XS.istore X196.here hx rfl (hb hby at_178) rfl (l' := #[.val (.int p1), .val (.int p2), .val (.int p3), .val (.int p4), .val (.ref mg), .val (.int kk), .val (.int c), .val (.int mu), .val (.int sel), .val (.ref ar174), .val (.int (Int32.ofNat pN)), .val (.int (own_L1.getD pN 0)), .val (.int (1 : Int32))]) rfl ?_
              show Steps p.tables e below (T196.setTop (mkF m 180 #[.val (.int p1), .val (.int p2), .val (.int p3), .val (.int p4), .val (.ref mg), .val (.int kk), .val (.int c), .val (.int mu), .val (.int sel), .val (.ref ar174), .val (.int (Int32.ofNat pN)), .val (.int (own_L1.getD pN 0)), .val (.int (1 : Int32))] [])) _
              refine XS.aload X196.here hx rfl (hb hby at_180) rfl rfl ?_
              show Steps p.tables e below (T196.setTop (mkF m 182 #[.val (.int p1), .val (.int p2), .val (.int p3), .val (.int p4), .val (.ref mg), .val (.int kk), .val (.int c), .val (.int mu), .val (.int sel), .val (.ref ar174), .val (.int (Int32.ofNat pN)), .val (.int (own_L1.getD pN 0)), .val (.int (1 : Int32))] [(.ref mg)])) _
              refine st199 _ ?_
              show Steps p.tables e below (T199.setTop (mkF m 185 #[.val (.int p1), .val (.int p2), .val (.int p3), .val (.int p4), .val (.ref mg), .val (.int kk), .val (.int c), .val (.int mu), .val (.int sel), .val (.ref ar174), .val (.int (Int32.ofNat pN)), .val (.int (own_L1.getD pN 0)), .val (.int (1 : Int32))] [(.ref x), (.ref mg)])) _
              refine XS.dup X199.here hx rfl (hb hby at_185) rfl rfl ?_
              show Steps p.tables e below (T199.setTop (mkF m 186 #[.val (.int p1), .val (.int p2), .val (.int p3), .val (.int p4), .val (.ref mg), .val (.int kk), .val (.int c), .val (.int mu), .val (.int sel), .val (.ref ar174), .val (.int (Int32.ofNat pN)), .val (.int (own_L1.getD pN 0)), .val (.int (1 : Int32))] [(.ref x), (.ref x), (.ref mg)])) _
              refine XS.aload X199.here hx rfl (hb hby at_186) rfl rfl ?_
              show Steps p.tables e below (T199.setTop (mkF m 188 #[.val (.int p1), .val (.int p2), .val (.int p3), .val (.int p4), .val (.ref mg), .val (.int kk), .val (.int c), .val (.int mu), .val (.int sel), .val (.ref ar174), .val (.int (Int32.ofNat pN)), .val (.int (own_L1.getD pN 0)), .val (.int (1 : Int32))] [(.ref ar174), (.ref x), (.ref x), (.ref mg)])) _
              refine st207.trans ?_
              exact k)
          obtain ⟨cq211, kq211, q211a, q211b, q211c⟩ := isOf hZ rfl E_mg_210
          obtain ⟨_, _, ⟨T211, L211, kk211, nn211⟩, -, Y211, hT211, gr211, ⟨Lc211, hQ211, l211, y211, z211, C211⟩, st211⟩ := X207.virtualBackS hx (y := (⟨"com/example/tramway/tramway/poa/TramwayPoaManager", "_is_a", "(Ljava/lang/String;)Z"⟩ : MethodName)) (z := (⟨"com/example/tramway/tramway/poa/TramwayPoaManager", "_is_a", "(Ljava/lang/String;)Z"⟩ : MethodName)) hown (mvT hZ (hw _ (List.mem_of_getElem? (i := 47) rfl))) (mvT hZ (hw _ (List.mem_of_getElem? (i := 48) rfl))) (notFace_of_selects (args := #[]) (mvT hZ (hw _ (List.mem_of_getElem? (i := 50) rfl)))) (mvT hZ (hw _ (List.mem_of_getElem? (i := 50) rfl))) (mvT hZ (hw _ (List.mem_of_getElem? (i := 49) rfl))) (by decide) (backOfSH (W := 0) (rt) hZ (hw _ (List.mem_of_getElem? (i := 51) rfl)) (hw _ (List.mem_of_getElem? (i := 2) rfl)) (by decide) (by decide) hEL R208.1) q211a q211c (g := (mkF m 191 #[.val (.int p1), .val (.int p2), .val (.int p3), .val (.int p4), .val (.ref mg), .val (.int kk), .val (.int c), .val (.int mu), .val (.int sel), .val (.ref ar174), .val (.int (Int32.ofNat pN)), .val (.int (own_L1.getD pN 0)), .val (.int (1 : Int32))] [(.ref x), (.ref mg)])) rfl (by rw [hml]; rfl) (Steps.refl _) (argsL := [(.ref x)]) (rest := []) (lenOf pd__Ljava_lang_String__Z rfl) rfl (by show 2 * 0 + _ ≤ _; exact Nat.le_of_eq rfl) (hb hby at_191) (fun _ _ => ⟨rfl, rfl, Nat.le_of_ble_eq_true rfl, Nat.le_of_ble_eq_true rfl⟩)
          dsimp only [Pt.U, Pt.locs, Pt.cells, Pt.slots] at Y211 hT211 gr211 l211 y211 z211 C211 st211 hQ211
          subst l211 y211 z211
          obtain ⟨X211, hS211, hZ, hown⟩ := rebS hS0 HK_212 Y211 hT211 gr211 hZ hown
          have hk211 := Nat.le_refl T211.heap.size
          obtain ⟨rfl, Nq211, K211⟩ := hQ211
          have N211 := Fr.app N207 Nq211
          have R214 := R208.trans C211
          obtain ⟨fs, hr, hrun, hended, hRE⟩ := X211.leaveW hS211 hk211 (v := some (.int (1 : Int32))) (fun h => by rw [Bd.returns] at h; cases h)
          refine ⟨_, _, go213 _ ?_, hrun, hended, _, _, rfl, ?_, ?_, hRE.1, hRE.2.1, hRE.2.2.1, hRE.2.2.2.mono (by decide) (by decide)⟩
          · show Steps p.tables e below (T207.setTop (mkF m 191 #[.val (.int p1), .val (.int p2), .val (.int p3), .val (.int p4), .val (.ref mg), .val (.int kk), .val (.int c), .val (.int mu), .val (.int sel), .val (.ref ar174), .val (.int (Int32.ofNat pN)), .val (.int (own_L1.getD pN 0)), .val (.int (1 : Int32))] [(.ref x), (.ref mg)])) _
            refine st211.trans ?_
            show Steps p.tables e below (T211.setTop (mkF m 194 #[.val (.int p1), .val (.int p2), .val (.int p3), .val (.int p4), .val (.ref mg), .val (.int kk), .val (.int c), .val (.int mu), .val (.int sel), .val (.ref ar174), .val (.int (Int32.ofNat pN)), .val (.int (own_L1.getD pN 0)), .val (.int (1 : Int32))] [(.int (1 : Int32))])) _
            refine XS.iload X211.here hx rfl (hb hby at_194) rfl ?_
            show Steps p.tables e below (T211.setTop (mkF m 196 #[.val (.int p1), .val (.int p2), .val (.int p3), .val (.int p4), .val (.ref mg), .val (.int kk), .val (.int c), .val (.int mu), .val (.int sel), .val (.ref ar174), .val (.int (Int32.ofNat pN)), .val (.int (own_L1.getD pN 0)), .val (.int (1 : Int32))] [(.int (1 : Int32)), (.int (1 : Int32))])) _
            refine XS.icmpNo X211.here hx rfl (hb hby at_196) rfl (teq (rfl : (1 : Int32) = (1 : Int32))).2 ?_
            show Steps p.tables e below (T211.setTop (mkF m 199 #[.val (.int p1), .val (.int p2), .val (.int p3), .val (.int p4), .val (.ref mg), .val (.int kk), .val (.int c), .val (.int mu), .val (.int sel), .val (.ref ar174), .val (.int (Int32.ofNat pN)), .val (.int (own_L1.getD pN 0)), .val (.int (1 : Int32))] [])) _
            refine XS.iconst X211.here hx rfl (hb hby at_199) ?_
            show Steps p.tables e below (T211.setTop (mkF m 200 #[.val (.int p1), .val (.int p2), .val (.int p3), .val (.int p4), .val (.ref mg), .val (.int kk), .val (.int c), .val (.int mu), .val (.int sel), .val (.ref ar174), .val (.int (Int32.ofNat pN)), .val (.int (own_L1.getD pN 0)), .val (.int (1 : Int32))] [(.int (1 : Int32))])) _
            refine XS.goto X211.here hx rfl (pc0 := 200) (pc' := 204) rfl (hb hby at_200) (by decide) (by decide) ?_
            show Steps p.tables e below (T211.setTop (mkF m 204 #[.val (.int p1), .val (.int p2), .val (.int p3), .val (.int p4), .val (.ref mg), .val (.int kk), .val (.int c), .val (.int mu), .val (.int sel), .val (.ref ar174), .val (.int (Int32.ofNat pN)), .val (.int (own_L1.getD pN 0)), .val (.int (1 : Int32))] [(.int (1 : Int32))])) _
            exact retN X211 hx (t := .boolean) Bd.returns (by simp) (hb hby at_204) hr
          · show Q0 h0 n0 _ T211.heap _
            exact ⟨rfl, N211⟩
          · show CHr Z own_EL s.vm s.heap T211.vm T211.heap
            rw [hh]
            exact R214.trans (CHv.at X211 hZ hEL R214.1)
        · obtain ⟨cl215, Ar215, q215, S215, M215, Hh215, G215⟩ := id V_ar174
          obtain ⟨T215, h215, X215, e215, W215, st215⟩ := stC X174 hx hZ rfl Ar215 (j := (Int32.ofNat pN)) (inb_of S215 ⟨own_nn (by omega), own_lt32 (b := 28) hpN (by decide)⟩) (g := (mkF m 162 #[.val (.int p1), .val (.int p2), .val (.int p3), .val (.int p4), .val (.ref mg), .val (.int kk), .val (.int c), .val (.int mu), .val (.int sel), .val (.ref ar174), .val (.int (Int32.ofNat pN)), .val (.int (own_L1.getD pN 0)), .unset] [(.int c), (.int (Int32.ofNat pN)), (.ref ar174)])) rfl rfl (hb hby at_162)
          have V_ar174_215 : Arv Z h215 ar174 ka174 .char (28 : Int32) ((own_L1.set pN c).map Value.int) (.int (0 : Int32)) := (own_setv own_L1 pN c rc.2.2) ▸ (Arv.set Ar215 q215 S215 M215 Hh215 G215 (fits_nar_char _) W215 pN (own_clamp (by omega)) (by simp [own_L1]; omega))
          have K215 : Keep T174.heap h215 [ar174] := Keep.of_wr W215
          have hs216 : ∀ sx_ ∈ ([ar174] : List Addr), Safe Z own_EL s.vm T174.heap sx_ := (allS (Safe.arr hZ.alike Ar215 (by decide)) all0)
          have R216 := R175.trans (CHr.keep K215 hs216 R175.1)
          have N215 := Fr.snoc X215 N174 g_ar174
          obtain ⟨cl217, Ar217, q217, S217, M217, Hh217, G217⟩ := id V_ar174_215
          have hin217 : ¬ ((Int32.ofNat pN) < 0 ∨ cl217.slots.size ≤ ((Int32.ofNat pN)).toNatClampNeg) := inb_of S217 ⟨own_nn (by omega), own_lt32 (b := 28) hpN (by decide)⟩
          have hat217 : cl217.slots[((Int32.ofNat pN)).toNatClampNeg]? = some (.int c) := Has.at Hh217 hin217 (by rw [own_clamp (by omega)]; exact own_getset _ _ _ (by simp [own_L1]; omega))
          obtain ⟨T218, h218, X218, e218, E218, A218, D218, -, st218⟩ := newO X215 hx hZ hown (hw _ (List.mem_of_getElem? (i := 20) rfl)) (hw _ (List.mem_of_getElem? (i := 21) rfl)) (hw _ (List.mem_of_getElem? (i := 22) rfl)) e215 (g := (mkF m 182 #[.val (.int p1), .val (.int p2), .val (.int p3), .val (.int p4), .val (.ref mg), .val (.int kk), .val (.int c), .val (.int mu), .val (.int sel), .val (.ref ar174), .val (.int (Int32.ofNat pN)), .val (.int (own_L1.getD pN 0)), .val (.int (0 : Int32))] [(.ref mg)])) rfl (hb hby at_182) (by decide) (by decide)
          obtain ⟨x, g218⟩ : ∃ z, z = h215.size := ⟨_, rfl⟩
          rw [← g218] at A218 D218 st218
          have Z_219 := (Nat.le_trans (Nat.le_trans Z_173 K174.1) K215.1)
          have g_x : n0 ≤ x := Nat.le_trans Z_219 (Nat.le_of_eq g218.symm)
          have lt_mg_220 := (Nat.lt_of_lt_of_le (Nat.lt_of_lt_of_le lt_mg_176 K174.1) K215.1)
          have ne_mg_x : mg ≠ x := (Nat.ne_of_lt (Nat.lt_of_lt_of_le lt_mg_220 (Nat.le_of_eq g218.symm)))
          have lt_ar174_221 := (Nat.lt_of_lt_of_le lt_ar174 K215.1)
          have ne_ar174_x : ar174 ≠ x := (Nat.ne_of_lt (Nat.lt_of_lt_of_le lt_ar174_221 (Nat.le_of_eq g218.symm)))
          have F_coder_x : Fld Z h218 x "java/lang/String" "coder" "B" (.int (0 : Int32)) := D218 (Or.inr (hw _ (List.mem_of_getElem? (i := 44) rfl))) (ty := .byte) (by decide)
          have F_value_x : Fld Z h218 x "java/lang/String" "value" "[B" .null := D218 (Or.inr (hw _ (List.mem_of_getElem? (i := 46) rfl))) (ty := (.array .byte)) (by decide)
          have K218 : Keep h215 h218 [] := (Keep.refl _ []).ext E218
          have hs222 : ∀ sx_ ∈ ([] : List Addr), Safe Z own_EL s.vm h215 sx_ := all0
          have R222 := R216.trans (CHr.keep K218 hs222 R216.1)
          have lt_x : x < h218.size := A218.lt
          have sfx : Safe Z own_EL s.vm h218 x := own_safe_null hZ.alike A218 F_value_x (hw _ (List.mem_of_getElem? (i := 21) rfl))
          have Z_223 := (Nat.le_trans Z_219 K218.1)
          have O_224 := ((((O_103.keep K104 (allS g_mg all0)).keep K174 all0).keep K215 (allS g_ar174 all0)).keep K218 all0)
          have V_ar174_225 := (V_ar174_215.keep K218 nin0)
          obtain ⟨_, _, ⟨T226, L226, kk226, nn226⟩, -, X226, ⟨Lc226, hQ226, l226, y226, z226⟩, st226⟩ := X218.specialBack hx (y := (⟨"java/lang/String", "<init>", "([C)V"⟩ : MethodName)) rfl hown (mvT hZ (hw _ (List.mem_of_getElem? (i := 23) rfl))) (mvT hZ (hw _ (List.mem_of_getElem? (i := 24) rfl))) (mvT hZ (hw _ (List.mem_of_getElem? (i := 25) rfl))) (by decide) (StrChars.Road.backV (W := 2) hZ hws (kI := 4) (hw _ (List.mem_of_getElem? (i := 21) rfl)) (cs := (own_L1.set pN c)) (bs := ((own_L1.set pN c)).map (fun c => c.toInt8.toInt32)) (n := 28) g_x Z_223 A218 F_value_x F_coder_x V_ar174_225 (O2.ext O_224.2) P5 (by simp [own_L0, own_L1]) rfl (by decide) (by decide) (own_set_rng own_lr1 ⟨rc.2.2 ▸ rc.1, rc.2.2 ▸ rc.2.1⟩) rfl (by decide) (by decide)) (g := (mkF m 188 #[.val (.int p1), .val (.int p2), .val (.int p3), .val (.int p4), .val (.ref mg), .val (.int kk), .val (.int c), .val (.int mu), .val (.int sel), .val (.ref ar174), .val (.int (Int32.ofNat pN)), .val (.int (own_L1.getD pN 0)), .val (.int (0 : Int32))] [(.ref ar174), (.ref x), (.ref x), (.ref mg)])) rfl (by rw [hml]; rfl) (Steps.refl _) (a := x) (argsL := [(.ref ar174)]) (rest := [(.ref x), (.ref mg)]) (lenOf pd___C_V rfl) rfl (by show 2 * 0 + _ ≤ _; exact Nat.le_of_eq rfl) (hb hby at_188) (fun _ _ => ⟨rfl, e218, Nat.le_of_ble_eq_true rfl, Nat.le_of_ble_eq_true rfl⟩)
          dsimp only [Pt.U, Pt.locs, Pt.cells, Pt.slots] at X226 l226 y226 z226 st226 hQ226
          subst l226 y226 z226
          obtain ⟨rfl, Nq226, K226, Eq226, Fc226, t226, kb226, g_t226, le226, nx226, Fv226, V_t226⟩ := hQ226
          have N226 := Fr.app N215 Nq226
          have hs227 : ∀ sx_ ∈ ([x] : List Addr), Safe Z own_EL s.vm h218 sx_ := (allS sfx all0)
          have R227 := R222.trans (CHr.keep K226 hs227 R222.1)
          have V_t226_ : Arv Z T226.heap t226 kb226 .byte (Int32.ofNat ((own_L1.set pN c)).length) ((((own_L1.set pN c)).map (fun c => c.toInt8.toInt32)).map Value.int) (.int (0 : Int32)) := by
            have e : ((own_L1.set pN c)).length = 28 := by simp [own_L0, own_L1]
            rw [e]; exact V_t226
          have O_228 := (O_224.keep K226 (allS g_x all0))
          obtain ⟨r, hr1, rt⟩ := rmIA l Z a0 hw [] mg x t226 kb226 (own_L1.set pN c) G1 T226.heap n0 Eq226 Fv226 Fc226 V_t226_ (own_set_rng own_lr1 ⟨rc.2.2 ▸ rc.1, rc.2.2 ▸ rc.2.1⟩) (by simp [own_L0, own_L1, own_L2, own_L3, own_L4]) O2 P5 O_228
          obtain rfl : r = 0 := by
            rcases hr1 with ⟨-, h⟩ | ⟨h, -⟩
            · exact absurd h (own_set_ne1 (by omega) hs)
            · exact h
          have E_mg_229 := ((((Em104.keep K174).keep K215).keep K218).keep K226)
          have HK_231 := (Nat.le_trans (Nat.le_trans (Nat.le_trans (Nat.le_trans (Nat.le_trans (Nat.le_trans hk0 K101.1) K104.1) K174.1) K215.1) K218.1) K226.1)
          have go232 : ∀ tg_, Steps p.tables e below (T226.setTop (mkF m 191 #[.val (.int p1), .val (.int p2), .val (.int p3), .val (.int p4), .val (.ref mg), .val (.int kk), .val (.int c), .val (.int mu), .val (.int sel), .val (.ref ar174), .val (.int (Int32.ofNat pN)), .val (.int (own_L1.getD pN 0)), .val (.int (0 : Int32))] [(.ref x), (.ref mg)])) tg_ → Steps p.tables e below (s₁.setTop (entryFrame m #[(.int p1), (.int p2), (.int p3), (.int p4)] maxLocals)) tg_ := fun tg_ k => go179 tg_ (by
              show Steps p.tables e below (T174.setTop (mkF m 153 #[.val (.int p1), .val (.int p2), .val (.int p3), .val (.int p4), .val (.ref mg), .val (.int kk), .val (.int c), .val (.int mu), .val (.int sel), .val (.ref ar174), .val (.int (Int32.ofNat pN)), .val (.int (own_L1.getD pN 0)), .unset] [(.int mu)])) _
              refine XS.ifNo X174.here hx rfl (hb hby at_153) rfl ((if0 _ _).trans (feq (hm : ¬ (mu = (0 : Int32)))).1) ?_
              show Steps p.tables e below (T174.setTop (mkF m 156 #[.val (.int p1), .val (.int p2), .val (.int p3), .val (.int p4), .val (.ref mg), .val (.int kk), .val (.int c), .val (.int mu), .val (.int sel), .val (.ref ar174), .val (.int (Int32.ofNat pN)), .val (.int (own_L1.getD pN 0)), .unset] [])) _
              refine XS.aload X174.here hx rfl (hb hby at_156) rfl rfl ?_
              show Steps p.tables e below (T174.setTop (mkF m 158 #[.val (.int p1), .val (.int p2), .val (.int p3), .val (.int p4), .val (.ref mg), .val (.int kk), .val (.int c), .val (.int mu), .val (.int sel), .val (.ref ar174), .val (.int (Int32.ofNat pN)), .val (.int (own_L1.getD pN 0)), .unset] [(.ref ar174)])) _
              refine XS.iload X174.here hx rfl (hb hby at_158) rfl ?_
              show Steps p.tables e below (T174.setTop (mkF m 160 #[.val (.int p1), .val (.int p2), .val (.int p3), .val (.int p4), .val (.ref mg), .val (.int kk), .val (.int c), .val (.int mu), .val (.int sel), .val (.ref ar174), .val (.int (Int32.ofNat pN)), .val (.int (own_L1.getD pN 0)), .unset] [(.int (Int32.ofNat pN)), (.ref ar174)])) _
              refine XS.iload X174.here hx rfl (hb hby at_160) rfl ?_
              show Steps p.tables e below (T174.setTop (mkF m 162 #[.val (.int p1), .val (.int p2), .val (.int p3), .val (.int p4), .val (.ref mg), .val (.int kk), .val (.int c), .val (.int mu), .val (.int sel), .val (.ref ar174), .val (.int (Int32.ofNat pN)), .val (.int (own_L1.getD pN 0)), .unset] [(.int c), (.int (Int32.ofNat pN)), (.ref ar174)])) _
              refine st215 _ ?_
              show Steps p.tables e below (T215.setTop (mkF m 163 #[.val (.int p1), .val (.int p2), .val (.int p3), .val (.int p4), .val (.ref mg), .val (.int kk), .val (.int c), .val (.int mu), .val (.int sel), .val (.ref ar174), .val (.int (Int32.ofNat pN)), .val (.int (own_L1.getD pN 0)), .unset] [])) _
              refine XS.aload X215.here hx rfl (hb hby at_163) rfl rfl ?_
              show Steps p.tables e below (T215.setTop (mkF m 165 #[.val (.int p1), .val (.int p2), .val (.int p3), .val (.int p4), .val (.ref mg), .val (.int kk), .val (.int c), .val (.int mu), .val (.int sel), .val (.ref ar174), .val (.int (Int32.ofNat pN)), .val (.int (own_L1.getD pN 0)), .unset] [(.ref ar174)])) _
              refine XS.iload X215.here hx rfl (hb hby at_165) rfl ?_
              show Steps p.tables e below (T215.setTop (mkF m 167 #[.val (.int p1), .val (.int p2), .val (.int p3), .val (.int p4), .val (.ref mg), .val (.int kk), .val (.int c), .val (.int mu), .val (.int sel), .val (.ref ar174), .val (.int (Int32.ofNat pN)), .val (.int (own_L1.getD pN 0)), .unset] [(.int (Int32.ofNat pN)), (.ref ar174)])) _
              refine X215.caload hx (j := (Int32.ofNat pN)) (v := (.int c)) (by rw [e215]; exact Ar217.1) (State.isArrayOf_alike hZ.alike Ar217.2.1) Ar217.2.2 hin217 hat217 (g := (mkF m 167 #[.val (.int p1), .val (.int p2), .val (.int p3), .val (.int p4), .val (.ref mg), .val (.int kk), .val (.int c), .val (.int mu), .val (.int sel), .val (.ref ar174), .val (.int (Int32.ofNat pN)), .val (.int (own_L1.getD pN 0)), .unset] [(.int (Int32.ofNat pN)), (.ref ar174)])) rfl rfl (hb hby at_167) _ ?_
              show Steps p.tables e below (T215.setTop (mkF m 168 #[.val (.int p1), .val (.int p2), .val (.int p3), .val (.int p4), .val (.ref mg), .val (.int kk), .val (.int c), .val (.int mu), .val (.int sel), .val (.ref ar174), .val (.int (Int32.ofNat pN)), .val (.int (own_L1.getD pN 0)), .unset] [(.int c)])) _
              refine XS.iload X215.here hx rfl (hb hby at_168) rfl ?_
              show Steps p.tables e below (T215.setTop (mkF m 170 #[.val (.int p1), .val (.int p2), .val (.int p3), .val (.int p4), .val (.ref mg), .val (.int kk), .val (.int c), .val (.int mu), .val (.int sel), .val (.ref ar174), .val (.int (Int32.ofNat pN)), .val (.int (own_L1.getD pN 0)), .unset] [(.int (own_L1.getD pN 0)), (.int c)])) _
              refine XS.icmpYes X215.here hx rfl (pc0 := 170) (pc' := 177) rfl (hb hby at_170) rfl (feq (hs : ¬ (c = (own_L1.getD pN 0)))).2 (by decide) (by decide) ?_
              show Steps p.tables e below (T215.setTop (mkF m 177 #[.val (.int p1), .val (.int p2), .val (.int p3), .val (.int p4), .val (.ref mg), .val (.int kk), .val (.int c), .val (.int mu), .val (.int sel), .val (.ref ar174), .val (.int (Int32.ofNat pN)), .val (.int (own_L1.getD pN 0)), .unset] [])) _
              refine XS.iconst X215.here hx rfl (hb hby at_177) ?_
              show Steps p.tables e below (T215.setTop (mkF m 178 #[.val (.int p1), .val (.int p2), .val (.int p3), .val (.int p4), .val (.ref mg), .val (.int kk), .val (.int c), .val (.int mu), .val (.int sel), .val (.ref ar174), .val (.int (Int32.ofNat pN)), .val (.int (own_L1.getD pN 0)), .unset] [(.int (0 : Int32))])) _
              refine XS.istore X215.here hx rfl (hb hby at_178) rfl (l' := #[.val (.int p1), .val (.int p2), .val (.int p3), .val (.int p4), .val (.ref mg), .val (.int kk), .val (.int c), .val (.int mu), .val (.int sel), .val (.ref ar174), .val (.int (Int32.ofNat pN)), .val (.int (own_L1.getD pN 0)), .val (.int (0 : Int32))]) rfl ?_
              show Steps p.tables e below (T215.setTop (mkF m 180 #[.val (.int p1), .val (.int p2), .val (.int p3), .val (.int p4), .val (.ref mg), .val (.int kk), .val (.int c), .val (.int mu), .val (.int sel), .val (.ref ar174), .val (.int (Int32.ofNat pN)), .val (.int (own_L1.getD pN 0)), .val (.int (0 : Int32))] [])) _
              refine XS.aload X215.here hx rfl (hb hby at_180) rfl rfl ?_
              show Steps p.tables e below (T215.setTop (mkF m 182 #[.val (.int p1), .val (.int p2), .val (.int p3), .val (.int p4), .val (.ref mg), .val (.int kk), .val (.int c), .val (.int mu), .val (.int sel), .val (.ref ar174), .val (.int (Int32.ofNat pN)), .val (.int (own_L1.getD pN 0)), .val (.int (0 : Int32))] [(.ref mg)])) _
              refine st218 _ ?_
              show Steps p.tables e below (T218.setTop (mkF m 185 #[.val (.int p1), .val (.int p2), .val (.int p3), .val (.int p4), .val (.ref mg), .val (.int kk), .val (.int c), .val (.int mu), .val (.int sel), .val (.ref ar174), .val (.int (Int32.ofNat pN)), .val (.int (own_L1.getD pN 0)), .val (.int (0 : Int32))] [(.ref x), (.ref mg)])) _
              refine XS.dup X218.here hx rfl (hb hby at_185) rfl rfl ?_
              show Steps p.tables e below (T218.setTop (mkF m 186 #[.val (.int p1), .val (.int p2), .val (.int p3), .val (.int p4), .val (.ref mg), .val (.int kk), .val (.int c), .val (.int mu), .val (.int sel), .val (.ref ar174), .val (.int (Int32.ofNat pN)), .val (.int (own_L1.getD pN 0)), .val (.int (0 : Int32))] [(.ref x), (.ref x), (.ref mg)])) _
              refine XS.aload X218.here hx rfl (hb hby at_186) rfl rfl ?_
              show Steps p.tables e below (T218.setTop (mkF m 188 #[.val (.int p1), .val (.int p2), .val (.int p3), .val (.int p4), .val (.ref mg), .val (.int kk), .val (.int c), .val (.int mu), .val (.int sel), .val (.ref ar174), .val (.int (Int32.ofNat pN)), .val (.int (own_L1.getD pN 0)), .val (.int (0 : Int32))] [(.ref ar174), (.ref x), (.ref x), (.ref mg)])) _
              refine st226.trans ?_
              exact k)
          obtain ⟨cq230, kq230, q230a, q230b, q230c⟩ := isOf hZ rfl E_mg_229
          obtain ⟨_, _, ⟨T230, L230, kk230, nn230⟩, -, Y230, hT230, gr230, ⟨Lc230, hQ230, l230, y230, z230, C230⟩, st230⟩ := X226.virtualBackS hx (y := (⟨"com/example/tramway/tramway/poa/TramwayPoaManager", "_is_a", "(Ljava/lang/String;)Z"⟩ : MethodName)) (z := (⟨"com/example/tramway/tramway/poa/TramwayPoaManager", "_is_a", "(Ljava/lang/String;)Z"⟩ : MethodName)) hown (mvT hZ (hw _ (List.mem_of_getElem? (i := 47) rfl))) (mvT hZ (hw _ (List.mem_of_getElem? (i := 48) rfl))) (notFace_of_selects (args := #[]) (mvT hZ (hw _ (List.mem_of_getElem? (i := 50) rfl)))) (mvT hZ (hw _ (List.mem_of_getElem? (i := 50) rfl))) (mvT hZ (hw _ (List.mem_of_getElem? (i := 49) rfl))) (by decide) (backOfSH (W := 0) (rt) hZ (hw _ (List.mem_of_getElem? (i := 51) rfl)) (hw _ (List.mem_of_getElem? (i := 2) rfl)) (by decide) (by decide) hEL R227.1) q230a q230c (g := (mkF m 191 #[.val (.int p1), .val (.int p2), .val (.int p3), .val (.int p4), .val (.ref mg), .val (.int kk), .val (.int c), .val (.int mu), .val (.int sel), .val (.ref ar174), .val (.int (Int32.ofNat pN)), .val (.int (own_L1.getD pN 0)), .val (.int (0 : Int32))] [(.ref x), (.ref mg)])) rfl (by rw [hml]; rfl) (Steps.refl _) (argsL := [(.ref x)]) (rest := []) (lenOf pd__Ljava_lang_String__Z rfl) rfl (by show 2 * 0 + _ ≤ _; exact Nat.le_of_eq rfl) (hb hby at_191) (fun _ _ => ⟨rfl, rfl, Nat.le_of_ble_eq_true rfl, Nat.le_of_ble_eq_true rfl⟩)
          dsimp only [Pt.U, Pt.locs, Pt.cells, Pt.slots] at Y230 hT230 gr230 l230 y230 z230 C230 st230 hQ230
          subst l230 y230 z230
          obtain ⟨X230, hS230, hZ, hown⟩ := rebS hS0 HK_231 Y230 hT230 gr230 hZ hown
          have hk230 := Nat.le_refl T230.heap.size
          obtain ⟨rfl, Nq230, K230⟩ := hQ230
          have N230 := Fr.app N226 Nq230
          have R233 := R227.trans C230
          obtain ⟨fs, hr, hrun, hended, hRE⟩ := X230.leaveW hS230 hk230 (v := some (.int (1 : Int32))) (fun h => by rw [Bd.returns] at h; cases h)
          refine ⟨_, _, go232 _ ?_, hrun, hended, _, _, rfl, ?_, ?_, hRE.1, hRE.2.1, hRE.2.2.1, hRE.2.2.2.mono (by decide) (by decide)⟩
          · show Steps p.tables e below (T226.setTop (mkF m 191 #[.val (.int p1), .val (.int p2), .val (.int p3), .val (.int p4), .val (.ref mg), .val (.int kk), .val (.int c), .val (.int mu), .val (.int sel), .val (.ref ar174), .val (.int (Int32.ofNat pN)), .val (.int (own_L1.getD pN 0)), .val (.int (0 : Int32))] [(.ref x), (.ref mg)])) _
            refine st230.trans ?_
            show Steps p.tables e below (T230.setTop (mkF m 194 #[.val (.int p1), .val (.int p2), .val (.int p3), .val (.int p4), .val (.ref mg), .val (.int kk), .val (.int c), .val (.int mu), .val (.int sel), .val (.ref ar174), .val (.int (Int32.ofNat pN)), .val (.int (own_L1.getD pN 0)), .val (.int (0 : Int32))] [(.int (0 : Int32))])) _
            refine XS.iload X230.here hx rfl (hb hby at_194) rfl ?_
            show Steps p.tables e below (T230.setTop (mkF m 196 #[.val (.int p1), .val (.int p2), .val (.int p3), .val (.int p4), .val (.ref mg), .val (.int kk), .val (.int c), .val (.int mu), .val (.int sel), .val (.ref ar174), .val (.int (Int32.ofNat pN)), .val (.int (own_L1.getD pN 0)), .val (.int (0 : Int32))] [(.int (0 : Int32)), (.int (0 : Int32))])) _
            refine XS.icmpNo X230.here hx rfl (hb hby at_196) rfl (teq (rfl : (0 : Int32) = (0 : Int32))).2 ?_
            show Steps p.tables e below (T230.setTop (mkF m 199 #[.val (.int p1), .val (.int p2), .val (.int p3), .val (.int p4), .val (.ref mg), .val (.int kk), .val (.int c), .val (.int mu), .val (.int sel), .val (.ref ar174), .val (.int (Int32.ofNat pN)), .val (.int (own_L1.getD pN 0)), .val (.int (0 : Int32))] [])) _
            refine XS.iconst X230.here hx rfl (hb hby at_199) ?_
            show Steps p.tables e below (T230.setTop (mkF m 200 #[.val (.int p1), .val (.int p2), .val (.int p3), .val (.int p4), .val (.ref mg), .val (.int kk), .val (.int c), .val (.int mu), .val (.int sel), .val (.ref ar174), .val (.int (Int32.ofNat pN)), .val (.int (own_L1.getD pN 0)), .val (.int (0 : Int32))] [(.int (1 : Int32))])) _
            refine XS.goto X230.here hx rfl (pc0 := 200) (pc' := 204) rfl (hb hby at_200) (by decide) (by decide) ?_
            show Steps p.tables e below (T230.setTop (mkF m 204 #[.val (.int p1), .val (.int p2), .val (.int p3), .val (.int p4), .val (.ref mg), .val (.int kk), .val (.int c), .val (.int mu), .val (.int sel), .val (.ref ar174), .val (.int (Int32.ofNat pN)), .val (.int (own_L1.getD pN 0)), .val (.int (0 : Int32))] [(.int (1 : Int32))])) _
            exact retN X230 hx (t := .boolean) Bd.returns (by simp) (hb hby at_204) hr
          · show Q0 h0 n0 _ T230.heap _
            exact ⟨rfl, N230⟩
          · show CHr Z own_EL s.vm s.heap T230.vm T230.heap
            rw [hh]
            exact R233.trans (CHv.at X230 hZ hEL R233.1)
    · by_cases ek2 : kk = 2
      · have ek := ek2
        have HK_235 := (Nat.le_trans (Nat.le_trans hk0 K101.1) K104.1)
        have go236 : ∀ tg_, Steps p.tables e below (T104.setTop (mkF m 214 #[.val (.int p1), .val (.int p2), .val (.int p3), .val (.int p4), .val (.ref mg), .val (.int kk), .val (.int c), .val (.int mu), .val (.int sel), .unset, .unset, .unset, .unset] [.null, (.ref mg)])) tg_ → Steps p.tables e below (s₁.setTop (entryFrame m #[(.int p1), (.int p2), (.int p3), (.int p4)] maxLocals)) tg_ := fun tg_ k => go111 tg_ (by
            show Steps p.tables e below (T104.setTop (mkF m 46 #[.val (.int p1), .val (.int p2), .val (.int p3), .val (.int p4), .val (.ref mg), .val (.int kk), .val (.int c), .val (.int mu), .val (.int sel), .unset, .unset, .unset, .unset] [(.int kk)])) _
            refine XS.ifYes X104.here hx rfl (pc0 := 46) (pc' := 124) rfl (hb hby at_46) rfl ((if0 _ _).trans (feq (ek0 : ¬ (kk = (0 : Int32)))).2) (by decide) (by decide) ?_
            show Steps p.tables e below (T104.setTop (mkF m 124 #[.val (.int p1), .val (.int p2), .val (.int p3), .val (.int p4), .val (.ref mg), .val (.int kk), .val (.int c), .val (.int mu), .val (.int sel), .unset, .unset, .unset, .unset] [])) _
            refine XS.iload X104.here hx rfl (hb hby at_124) rfl ?_
            show Steps p.tables e below (T104.setTop (mkF m 126 #[.val (.int p1), .val (.int p2), .val (.int p3), .val (.int p4), .val (.ref mg), .val (.int kk), .val (.int c), .val (.int mu), .val (.int sel), .unset, .unset, .unset, .unset] [(.int kk)])) _
            refine XS.iconst X104.here hx rfl (hb hby at_126) ?_
            show Steps p.tables e below (T104.setTop (mkF m 127 #[.val (.int p1), .val (.int p2), .val (.int p3), .val (.int p4), .val (.ref mg), .val (.int kk), .val (.int c), .val (.int mu), .val (.int sel), .unset, .unset, .unset, .unset] [(.int (1 : Int32)), (.int kk)])) _
            refine XS.icmpYes X104.here hx rfl (pc0 := 127) (pc' := 205) rfl (hb hby at_127) rfl (feq (ek1 : ¬ (kk = (1 : Int32)))).2 (by decide) (by decide) ?_
            show Steps p.tables e below (T104.setTop (mkF m 205 #[.val (.int p1), .val (.int p2), .val (.int p3), .val (.int p4), .val (.ref mg), .val (.int kk), .val (.int c), .val (.int mu), .val (.int sel), .unset, .unset, .unset, .unset] [])) _
            refine XS.iload X104.here hx rfl (hb hby at_205) rfl ?_
            show Steps p.tables e below (T104.setTop (mkF m 207 #[.val (.int p1), .val (.int p2), .val (.int p3), .val (.int p4), .val (.ref mg), .val (.int kk), .val (.int c), .val (.int mu), .val (.int sel), .unset, .unset, .unset, .unset] [(.int kk)])) _
            refine XS.iconst X104.here hx rfl (hb hby at_207) ?_
            show Steps p.tables e below (T104.setTop (mkF m 208 #[.val (.int p1), .val (.int p2), .val (.int p3), .val (.int p4), .val (.ref mg), .val (.int kk), .val (.int c), .val (.int mu), .val (.int sel), .unset, .unset, .unset, .unset] [(.int (2 : Int32)), (.int kk)])) _
            refine XS.icmpNo X104.here hx rfl (hb hby at_208) rfl (teq (ek : kk = (2 : Int32))).2 ?_
            show Steps p.tables e below (T104.setTop (mkF m 211 #[.val (.int p1), .val (.int p2), .val (.int p3), .val (.int p4), .val (.ref mg), .val (.int kk), .val (.int c), .val (.int mu), .val (.int sel), .unset, .unset, .unset, .unset] [])) _
            refine XS.aload X104.here hx rfl (hb hby at_211) rfl rfl ?_
            show Steps p.tables e below (T104.setTop (mkF m 213 #[.val (.int p1), .val (.int p2), .val (.int p3), .val (.int p4), .val (.ref mg), .val (.int kk), .val (.int c), .val (.int mu), .val (.int sel), .unset, .unset, .unset, .unset] [(.ref mg)])) _
            refine XS.aconstNull X104.here hx rfl (hb hby at_213) ?_
            exact k)
        obtain ⟨cq234, kq234, q234a, q234b, q234c⟩ := isOf hZ rfl Em104
        obtain ⟨_, _, ⟨T234, L234, kk234, nn234⟩, -, Y234, hT234, gr234, ⟨Lc234, hQ234, l234, y234, z234, C234⟩, st234⟩ := X104.virtualBackS hx (y := (⟨"com/example/tramway/tramway/poa/TramwayPoaManager", "_is_a", "(Ljava/lang/String;)Z"⟩ : MethodName)) (z := (⟨"com/example/tramway/tramway/poa/TramwayPoaManager", "_is_a", "(Ljava/lang/String;)Z"⟩ : MethodName)) hown (mvT hZ (hw _ (List.mem_of_getElem? (i := 47) rfl))) (mvT hZ (hw _ (List.mem_of_getElem? (i := 48) rfl))) (notFace_of_selects (args := #[]) (mvT hZ (hw _ (List.mem_of_getElem? (i := 50) rfl)))) (mvT hZ (hw _ (List.mem_of_getElem? (i := 50) rfl))) (mvT hZ (hw _ (List.mem_of_getElem? (i := 49) rfl))) (by decide) (backOfSH (W := 0) (rmIAn l Z a0 hw [] mg T104.heap n0) hZ (hw _ (List.mem_of_getElem? (i := 51) rfl)) (hw _ (List.mem_of_getElem? (i := 2) rfl)) (by decide) (by decide) hEL R105.1) q234a q234c (g := (mkF m 214 #[.val (.int p1), .val (.int p2), .val (.int p3), .val (.int p4), .val (.ref mg), .val (.int kk), .val (.int c), .val (.int mu), .val (.int sel), .unset, .unset, .unset, .unset] [.null, (.ref mg)])) rfl (by rw [hml]; rfl) (Steps.refl _) (argsL := [.null]) (rest := []) (lenOf pd__Ljava_lang_String__Z rfl) rfl (by show 2 * 0 + _ ≤ _; exact Nat.le_of_eq rfl) (hb hby at_214) (fun _ _ => ⟨rfl, rfl, Nat.le_of_ble_eq_true rfl, Nat.le_of_ble_eq_true rfl⟩)
        dsimp only [Pt.U, Pt.locs, Pt.cells, Pt.slots] at Y234 hT234 gr234 l234 y234 z234 C234 st234 hQ234
        subst l234 y234 z234
        obtain ⟨X234, hS234, hZ, hown⟩ := rebS hS0 HK_235 Y234 hT234 gr234 hZ hown
        have hk234 := Nat.le_refl T234.heap.size
        obtain ⟨rfl, Nq234, K234⟩ := hQ234
        have N234 := Fr.app N104 Nq234
        have R237 := R105.trans C234
        obtain ⟨fs, hr, hrun, hended, hRE⟩ := X234.leaveW hS234 hk234 (v := some (.int (1 : Int32))) (fun h => by rw [Bd.returns] at h; cases h)
        refine ⟨_, _, go236 _ ?_, hrun, hended, _, _, rfl, ?_, ?_, hRE.1, hRE.2.1, hRE.2.2.1, hRE.2.2.2.mono (by decide) (by decide)⟩
        · show Steps p.tables e below (T104.setTop (mkF m 214 #[.val (.int p1), .val (.int p2), .val (.int p3), .val (.int p4), .val (.ref mg), .val (.int kk), .val (.int c), .val (.int mu), .val (.int sel), .unset, .unset, .unset, .unset] [.null, (.ref mg)])) _
          refine st234.trans ?_
          show Steps p.tables e below (T234.setTop (mkF m 217 #[.val (.int p1), .val (.int p2), .val (.int p3), .val (.int p4), .val (.ref mg), .val (.int kk), .val (.int c), .val (.int mu), .val (.int sel), .unset, .unset, .unset, .unset] [(.int (0 : Int32))])) _
          refine XS.ifNo X234.here hx rfl (hb hby at_217) rfl ((if0 _ _).trans (teq (rfl : (0 : Int32) = (0 : Int32))).2) ?_
          show Steps p.tables e below (T234.setTop (mkF m 220 #[.val (.int p1), .val (.int p2), .val (.int p3), .val (.int p4), .val (.ref mg), .val (.int kk), .val (.int c), .val (.int mu), .val (.int sel), .unset, .unset, .unset, .unset] [])) _
          refine XS.iconst X234.here hx rfl (hb hby at_220) ?_
          show Steps p.tables e below (T234.setTop (mkF m 221 #[.val (.int p1), .val (.int p2), .val (.int p3), .val (.int p4), .val (.ref mg), .val (.int kk), .val (.int c), .val (.int mu), .val (.int sel), .unset, .unset, .unset, .unset] [(.int (1 : Int32))])) _
          refine XS.goto X234.here hx rfl (pc0 := 221) (pc' := 225) rfl (hb hby at_221) (by decide) (by decide) ?_
          show Steps p.tables e below (T234.setTop (mkF m 225 #[.val (.int p1), .val (.int p2), .val (.int p3), .val (.int p4), .val (.ref mg), .val (.int kk), .val (.int c), .val (.int mu), .val (.int sel), .unset, .unset, .unset, .unset] [(.int (1 : Int32))])) _
          exact retN X234 hx (t := .boolean) Bd.returns (by simp) (hb hby at_225) hr
        · show Q0 h0 n0 _ T234.heap _
          exact ⟨rfl, N234⟩
        · show CHr Z own_EL s.vm s.heap T234.vm T234.heap
          rw [hh]
          exact R237.trans (CHv.at X234 hZ hEL R237.1)
      · by_cases ek3 : kk = 3
        · have ek := ek3
          have go238 : ∀ tg_, Steps p.tables e below (T104.setTop (mkF m 236 #[.val (.int p1), .val (.int p2), .val (.int p3), .val (.int p4), .val (.ref mg), .val (.int kk), .val (.int c), .val (.int mu), .val (.int sel), .unset, .unset, .unset, .unset] [(.int (sel &&& (3 : Int32)))])) tg_ → Steps p.tables e below (s₁.setTop (entryFrame m #[(.int p1), (.int p2), (.int p3), (.int p4)] maxLocals)) tg_ := fun tg_ k => go111 tg_ (by
              show Steps p.tables e below (T104.setTop (mkF m 46 #[.val (.int p1), .val (.int p2), .val (.int p3), .val (.int p4), .val (.ref mg), .val (.int kk), .val (.int c), .val (.int mu), .val (.int sel), .unset, .unset, .unset, .unset] [(.int kk)])) _
              refine XS.ifYes X104.here hx rfl (pc0 := 46) (pc' := 124) rfl (hb hby at_46) rfl ((if0 _ _).trans (feq (ek0 : ¬ (kk = (0 : Int32)))).2) (by decide) (by decide) ?_
              show Steps p.tables e below (T104.setTop (mkF m 124 #[.val (.int p1), .val (.int p2), .val (.int p3), .val (.int p4), .val (.ref mg), .val (.int kk), .val (.int c), .val (.int mu), .val (.int sel), .unset, .unset, .unset, .unset] [])) _
              refine XS.iload X104.here hx rfl (hb hby at_124) rfl ?_
              show Steps p.tables e below (T104.setTop (mkF m 126 #[.val (.int p1), .val (.int p2), .val (.int p3), .val (.int p4), .val (.ref mg), .val (.int kk), .val (.int c), .val (.int mu), .val (.int sel), .unset, .unset, .unset, .unset] [(.int kk)])) _
              refine XS.iconst X104.here hx rfl (hb hby at_126) ?_
              show Steps p.tables e below (T104.setTop (mkF m 127 #[.val (.int p1), .val (.int p2), .val (.int p3), .val (.int p4), .val (.ref mg), .val (.int kk), .val (.int c), .val (.int mu), .val (.int sel), .unset, .unset, .unset, .unset] [(.int (1 : Int32)), (.int kk)])) _
              refine XS.icmpYes X104.here hx rfl (pc0 := 127) (pc' := 205) rfl (hb hby at_127) rfl (feq (ek1 : ¬ (kk = (1 : Int32)))).2 (by decide) (by decide) ?_
              show Steps p.tables e below (T104.setTop (mkF m 205 #[.val (.int p1), .val (.int p2), .val (.int p3), .val (.int p4), .val (.ref mg), .val (.int kk), .val (.int c), .val (.int mu), .val (.int sel), .unset, .unset, .unset, .unset] [])) _
              refine XS.iload X104.here hx rfl (hb hby at_205) rfl ?_
              show Steps p.tables e below (T104.setTop (mkF m 207 #[.val (.int p1), .val (.int p2), .val (.int p3), .val (.int p4), .val (.ref mg), .val (.int kk), .val (.int c), .val (.int mu), .val (.int sel), .unset, .unset, .unset, .unset] [(.int kk)])) _
              refine XS.iconst X104.here hx rfl (hb hby at_207) ?_
              show Steps p.tables e below (T104.setTop (mkF m 208 #[.val (.int p1), .val (.int p2), .val (.int p3), .val (.int p4), .val (.ref mg), .val (.int kk), .val (.int c), .val (.int mu), .val (.int sel), .unset, .unset, .unset, .unset] [(.int (2 : Int32)), (.int kk)])) _
              refine XS.icmpYes X104.here hx rfl (pc0 := 208) (pc' := 226) rfl (hb hby at_208) rfl (feq (ek2 : ¬ (kk = (2 : Int32)))).2 (by decide) (by decide) ?_
              show Steps p.tables e below (T104.setTop (mkF m 226 #[.val (.int p1), .val (.int p2), .val (.int p3), .val (.int p4), .val (.ref mg), .val (.int kk), .val (.int c), .val (.int mu), .val (.int sel), .unset, .unset, .unset, .unset] [])) _
              refine XS.iload X104.here hx rfl (hb hby at_226) rfl ?_
              show Steps p.tables e below (T104.setTop (mkF m 228 #[.val (.int p1), .val (.int p2), .val (.int p3), .val (.int p4), .val (.ref mg), .val (.int kk), .val (.int c), .val (.int mu), .val (.int sel), .unset, .unset, .unset, .unset] [(.int kk)])) _
              refine XS.iconst X104.here hx rfl (hb hby at_228) ?_
              show Steps p.tables e below (T104.setTop (mkF m 229 #[.val (.int p1), .val (.int p2), .val (.int p3), .val (.int p4), .val (.ref mg), .val (.int kk), .val (.int c), .val (.int mu), .val (.int sel), .unset, .unset, .unset, .unset] [(.int (3 : Int32)), (.int kk)])) _
              refine XS.icmpNo X104.here hx rfl (hb hby at_229) rfl (teq (ek : kk = (3 : Int32))).2 ?_
              show Steps p.tables e below (T104.setTop (mkF m 232 #[.val (.int p1), .val (.int p2), .val (.int p3), .val (.int p4), .val (.ref mg), .val (.int kk), .val (.int c), .val (.int mu), .val (.int sel), .unset, .unset, .unset, .unset] [])) _
              refine XS.iload X104.here hx rfl (hb hby at_232) rfl ?_
              show Steps p.tables e below (T104.setTop (mkF m 234 #[.val (.int p1), .val (.int p2), .val (.int p3), .val (.int p4), .val (.ref mg), .val (.int kk), .val (.int c), .val (.int mu), .val (.int sel), .unset, .unset, .unset, .unset] [(.int sel)])) _
              refine XS.iconst X104.here hx rfl (hb hby at_234) ?_
              show Steps p.tables e below (T104.setTop (mkF m 235 #[.val (.int p1), .val (.int p2), .val (.int p3), .val (.int p4), .val (.ref mg), .val (.int kk), .val (.int c), .val (.int mu), .val (.int sel), .unset, .unset, .unset, .unset] [(.int (3 : Int32)), (.int sel)])) _
              refine XS.iand X104.here hx rfl (hb hby at_235) rfl ?_
              show Steps p.tables e below (T104.setTop (mkF m 236 #[.val (.int p1), .val (.int p2), .val (.int p3), .val (.int p4), .val (.ref mg), .val (.int kk), .val (.int c), .val (.int mu), .val (.int sel), .unset, .unset, .unset, .unset] [(.int (sel &&& (3 : Int32)))])) _
              exact k)
          obtain ⟨ln, rln, e_ln⟩ : ∃ z : Int32, (True) ∧ (sel &&& (3 : Int32)) = z := ⟨_, trivial, rfl⟩
          rw [e_ln] at go238
          have go239 : ∀ tg_, Steps p.tables e below (T104.setTop (mkF m 247 #[.val (.int p1), .val (.int p2), .val (.int p3), .val (.int p4), .val (.ref mg), .val (.int kk), .val (.int c), .val (.int mu), .val (.int sel), .val (.int ln), .unset, .unset, .unset] [(.int ((((p3.toUInt32 >>> ((8 : Int32) &&& 31).toUInt32).toInt32) &&& (255 : Int32)).toUInt32.toUInt16.toUInt32.toInt32))])) tg_ → Steps p.tables e below (s₁.setTop (entryFrame m #[(.int p1), (.int p2), (.int p3), (.int p4)] maxLocals)) tg_ := fun tg_ k => go238 tg_ (by
              show Steps p.tables e below (T104.setTop (mkF m 236 #[.val (.int p1), .val (.int p2), .val (.int p3), .val (.int p4), .val (.ref mg), .val (.int kk), .val (.int c), .val (.int mu), .val (.int sel), .unset, .unset, .unset, .unset] [(.int ln)])) _
              refine XS.istore X104.here hx rfl (hb hby at_236) rfl (l' := #[.val (.int p1), .val (.int p2), .val (.int p3), .val (.int p4), .val (.ref mg), .val (.int kk), .val (.int c), .val (.int mu), .val (.int sel), .val (.int ln), .unset, .unset, .unset]) rfl ?_
              show Steps p.tables e below (T104.setTop (mkF m 238 #[.val (.int p1), .val (.int p2), .val (.int p3), .val (.int p4), .val (.ref mg), .val (.int kk), .val (.int c), .val (.int mu), .val (.int sel), .val (.int ln), .unset, .unset, .unset] [])) _
              refine XS.iloadN X104.here hx rfl (hb hby at_238) rfl ?_
              show Steps p.tables e below (T104.setTop (mkF m 239 #[.val (.int p1), .val (.int p2), .val (.int p3), .val (.int p4), .val (.ref mg), .val (.int kk), .val (.int c), .val (.int mu), .val (.int sel), .val (.int ln), .unset, .unset, .unset] [(.int p3)])) _
              refine XS.bipush X104.here hx rfl (hb hby at_239) ?_
              show Steps p.tables e below (T104.setTop (mkF m 241 #[.val (.int p1), .val (.int p2), .val (.int p3), .val (.int p4), .val (.ref mg), .val (.int kk), .val (.int c), .val (.int mu), .val (.int sel), .val (.int ln), .unset, .unset, .unset] [(.int (8 : Int32)), (.int p3)])) _
              refine XS.iushr X104.here hx rfl (hb hby at_241) rfl ?_
              show Steps p.tables e below (T104.setTop (mkF m 242 #[.val (.int p1), .val (.int p2), .val (.int p3), .val (.int p4), .val (.ref mg), .val (.int kk), .val (.int c), .val (.int mu), .val (.int sel), .val (.int ln), .unset, .unset, .unset] [(.int ((p3.toUInt32 >>> ((8 : Int32) &&& 31).toUInt32).toInt32))])) _
              refine XS.sipush X104.here hx rfl (hb hby at_242) ?_
              show Steps p.tables e below (T104.setTop (mkF m 245 #[.val (.int p1), .val (.int p2), .val (.int p3), .val (.int p4), .val (.ref mg), .val (.int kk), .val (.int c), .val (.int mu), .val (.int sel), .val (.int ln), .unset, .unset, .unset] [(.int (255 : Int32)), (.int ((p3.toUInt32 >>> ((8 : Int32) &&& 31).toUInt32).toInt32))])) _
              refine XS.iand X104.here hx rfl (hb hby at_245) rfl ?_
              show Steps p.tables e below (T104.setTop (mkF m 246 #[.val (.int p1), .val (.int p2), .val (.int p3), .val (.int p4), .val (.ref mg), .val (.int kk), .val (.int c), .val (.int mu), .val (.int sel), .val (.int ln), .unset, .unset, .unset] [(.int (((p3.toUInt32 >>> ((8 : Int32) &&& 31).toUInt32).toInt32) &&& (255 : Int32)))])) _
              refine XS.i2c X104.here hx rfl (hb hby at_246) rfl ?_
              show Steps p.tables e below (T104.setTop (mkF m 247 #[.val (.int p1), .val (.int p2), .val (.int p3), .val (.int p4), .val (.ref mg), .val (.int kk), .val (.int c), .val (.int mu), .val (.int sel), .val (.int ln), .unset, .unset, .unset] [(.int ((((p3.toUInt32 >>> ((8 : Int32) &&& 31).toUInt32).toInt32) &&& (255 : Int32)).toUInt32.toUInt16.toUInt32.toInt32))])) _
              exact k)
          obtain ⟨c1, rc1, e_c1⟩ : ∃ z : Int32, (¬ nar .char z < 0 ∧ ¬ (255 : Int32) < nar .char z ∧ nar .char z = z) ∧ ((((p3.toUInt32 >>> ((8 : Int32) &&& 31).toUInt32).toInt32) &&& (255 : Int32)).toUInt32.toUInt16.toUInt32.toInt32) = z := ⟨_, ⟨(own_and255 _).1, (own_and255 _).2, own_nar2 _⟩, rfl⟩
          rw [e_c1] at go239
          have go240 : ∀ tg_, Steps p.tables e below (T104.setTop (mkF m 258 #[.val (.int p1), .val (.int p2), .val (.int p3), .val (.int p4), .val (.ref mg), .val (.int kk), .val (.int c), .val (.int mu), .val (.int sel), .val (.int ln), .val (.int c1), .unset, .unset] [(.int ((((p3.toUInt32 >>> ((16 : Int32) &&& 31).toUInt32).toInt32) &&& (255 : Int32)).toUInt32.toUInt16.toUInt32.toInt32))])) tg_ → Steps p.tables e below (s₁.setTop (entryFrame m #[(.int p1), (.int p2), (.int p3), (.int p4)] maxLocals)) tg_ := fun tg_ k => go239 tg_ (by
              show Steps p.tables e below (T104.setTop (mkF m 247 #[.val (.int p1), .val (.int p2), .val (.int p3), .val (.int p4), .val (.ref mg), .val (.int kk), .val (.int c), .val (.int mu), .val (.int sel), .val (.int ln), .unset, .unset, .unset] [(.int c1)])) _
              refine XS.istore X104.here hx rfl (hb hby at_247) rfl (l' := #[.val (.int p1), .val (.int p2), .val (.int p3), .val (.int p4), .val (.ref mg), .val (.int kk), .val (.int c), .val (.int mu), .val (.int sel), .val (.int ln), .val (.int c1), .unset, .unset]) rfl ?_
              show Steps p.tables e below (T104.setTop (mkF m 249 #[.val (.int p1), .val (.int p2), .val (.int p3), .val (.int p4), .val (.ref mg), .val (.int kk), .val (.int c), .val (.int mu), .val (.int sel), .val (.int ln), .val (.int c1), .unset, .unset] [])) _
              refine XS.iloadN X104.here hx rfl (hb hby at_249) rfl ?_
              show Steps p.tables e below (T104.setTop (mkF m 250 #[.val (.int p1), .val (.int p2), .val (.int p3), .val (.int p4), .val (.ref mg), .val (.int kk), .val (.int c), .val (.int mu), .val (.int sel), .val (.int ln), .val (.int c1), .unset, .unset] [(.int p3)])) _
              refine XS.bipush X104.here hx rfl (hb hby at_250) ?_
              show Steps p.tables e below (T104.setTop (mkF m 252 #[.val (.int p1), .val (.int p2), .val (.int p3), .val (.int p4), .val (.ref mg), .val (.int kk), .val (.int c), .val (.int mu), .val (.int sel), .val (.int ln), .val (.int c1), .unset, .unset] [(.int (16 : Int32)), (.int p3)])) _
              refine XS.iushr X104.here hx rfl (hb hby at_252) rfl ?_
              show Steps p.tables e below (T104.setTop (mkF m 253 #[.val (.int p1), .val (.int p2), .val (.int p3), .val (.int p4), .val (.ref mg), .val (.int kk), .val (.int c), .val (.int mu), .val (.int sel), .val (.int ln), .val (.int c1), .unset, .unset] [(.int ((p3.toUInt32 >>> ((16 : Int32) &&& 31).toUInt32).toInt32))])) _
              refine XS.sipush X104.here hx rfl (hb hby at_253) ?_
              show Steps p.tables e below (T104.setTop (mkF m 256 #[.val (.int p1), .val (.int p2), .val (.int p3), .val (.int p4), .val (.ref mg), .val (.int kk), .val (.int c), .val (.int mu), .val (.int sel), .val (.int ln), .val (.int c1), .unset, .unset] [(.int (255 : Int32)), (.int ((p3.toUInt32 >>> ((16 : Int32) &&& 31).toUInt32).toInt32))])) _
              refine XS.iand X104.here hx rfl (hb hby at_256) rfl ?_
              show Steps p.tables e below (T104.setTop (mkF m 257 #[.val (.int p1), .val (.int p2), .val (.int p3), .val (.int p4), .val (.ref mg), .val (.int kk), .val (.int c), .val (.int mu), .val (.int sel), .val (.int ln), .val (.int c1), .unset, .unset] [(.int (((p3.toUInt32 >>> ((16 : Int32) &&& 31).toUInt32).toInt32) &&& (255 : Int32)))])) _
              refine XS.i2c X104.here hx rfl (hb hby at_257) rfl ?_
              show Steps p.tables e below (T104.setTop (mkF m 258 #[.val (.int p1), .val (.int p2), .val (.int p3), .val (.int p4), .val (.ref mg), .val (.int kk), .val (.int c), .val (.int mu), .val (.int sel), .val (.int ln), .val (.int c1), .unset, .unset] [(.int ((((p3.toUInt32 >>> ((16 : Int32) &&& 31).toUInt32).toInt32) &&& (255 : Int32)).toUInt32.toUInt16.toUInt32.toInt32))])) _
              exact k)
          obtain ⟨c2, rc2, e_c2⟩ : ∃ z : Int32, (¬ nar .char z < 0 ∧ ¬ (255 : Int32) < nar .char z ∧ nar .char z = z) ∧ ((((p3.toUInt32 >>> ((16 : Int32) &&& 31).toUInt32).toInt32) &&& (255 : Int32)).toUInt32.toUInt16.toUInt32.toInt32) = z := ⟨_, ⟨(own_and255 _).1, (own_and255 _).2, own_nar2 _⟩, rfl⟩
          rw [e_c2] at go240
          have go241 : ∀ tg_, Steps p.tables e below (T104.setTop (mkF m 262 #[.val (.int p1), .val (.int p2), .val (.int p3), .val (.int p4), .val (.ref mg), .val (.int kk), .val (.int c), .val (.int mu), .val (.int sel), .val (.int ln), .val (.int c1), .val (.int c2), .unset] [(.int ln)])) tg_ → Steps p.tables e below (s₁.setTop (entryFrame m #[(.int p1), (.int p2), (.int p3), (.int p4)] maxLocals)) tg_ := fun tg_ k => go240 tg_ (by
              show Steps p.tables e below (T104.setTop (mkF m 258 #[.val (.int p1), .val (.int p2), .val (.int p3), .val (.int p4), .val (.ref mg), .val (.int kk), .val (.int c), .val (.int mu), .val (.int sel), .val (.int ln), .val (.int c1), .unset, .unset] [(.int c2)])) _
              refine XS.istore X104.here hx rfl (hb hby at_258) rfl (l' := #[.val (.int p1), .val (.int p2), .val (.int p3), .val (.int p4), .val (.ref mg), .val (.int kk), .val (.int c), .val (.int mu), .val (.int sel), .val (.int ln), .val (.int c1), .val (.int c2), .unset]) rfl ?_
              show Steps p.tables e below (T104.setTop (mkF m 260 #[.val (.int p1), .val (.int p2), .val (.int p3), .val (.int p4), .val (.ref mg), .val (.int kk), .val (.int c), .val (.int mu), .val (.int sel), .val (.int ln), .val (.int c1), .val (.int c2), .unset] [])) _
              refine XS.iload X104.here hx rfl (hb hby at_260) rfl ?_
              exact k)
          by_cases hl0 : ln = 0
          · have hl := hl0
            obtain ⟨T242, h242, X242, e242, E242, A242, D242, -, st242⟩ := newO X104 hx hZ hown (hw _ (List.mem_of_getElem? (i := 20) rfl)) (hw _ (List.mem_of_getElem? (i := 21) rfl)) (hw _ (List.mem_of_getElem? (i := 22) rfl)) rfl (g := (mkF m 267 #[.val (.int p1), .val (.int p2), .val (.int p3), .val (.int p4), .val (.ref mg), .val (.int kk), .val (.int c), .val (.int mu), .val (.int sel), .val (.int ln), .val (.int c1), .val (.int c2), .unset] [(.ref mg)])) rfl (hb hby at_267) (by decide) (by decide)
            obtain ⟨x, g242⟩ : ∃ z, z = T104.heap.size := ⟨_, rfl⟩
            rw [← g242] at A242 D242 st242
            have Z_243 := (Nat.le_trans (Nat.le_trans Z0 K101.1) K104.1)
            have g_x : n0 ≤ x := Nat.le_trans Z_243 (Nat.le_of_eq g242.symm)
            have lt_mg_244 := (Nat.lt_of_lt_of_le lt_mg K104.1)
            have ne_mg_x : mg ≠ x := (Nat.ne_of_lt (Nat.lt_of_lt_of_le lt_mg_244 (Nat.le_of_eq g242.symm)))
            have F_coder_x : Fld Z h242 x "java/lang/String" "coder" "B" (.int (0 : Int32)) := D242 (Or.inr (hw _ (List.mem_of_getElem? (i := 44) rfl))) (ty := .byte) (by decide)
            have F_value_x : Fld Z h242 x "java/lang/String" "value" "[B" .null := D242 (Or.inr (hw _ (List.mem_of_getElem? (i := 46) rfl))) (ty := (.array .byte)) (by decide)
            have K242 : Keep T104.heap h242 [] := (Keep.refl _ []).ext E242
            have hs245 : ∀ sx_ ∈ ([] : List Addr), Safe Z own_EL s.vm T104.heap sx_ := all0
            have R245 := R105.trans (CHr.keep K242 hs245 R105.1)
            have lt_x : x < h242.size := A242.lt
            obtain ⟨T246, h246, k246, X246, e246, E246, A246, st246⟩ := newP X242 hx hZ (hw _ (List.mem_of_getElem? (i := 19) rfl)) e242 (g := (mkF m 272 #[.val (.int p1), .val (.int p2), .val (.int p3), .val (.int p4), .val (.ref mg), .val (.int kk), .val (.int c), .val (.int mu), .val (.int sel), .val (.int ln), .val (.int c1), .val (.int c2), .unset] [(.int (0 : Int32)), (.ref x), (.ref x), (.ref mg)])) rfl (hb hby at_272) rfl (by decide) (cap := 0) (by decide) (by decide) (by decide) (by decide)
            obtain ⟨ca, g246⟩ : ∃ z, z = h242.size := ⟨_, rfl⟩
            rw [← g246] at A246 st246
            have Z_247 := (Nat.le_trans Z_243 K242.1)
            have g_ca : n0 ≤ ca := Nat.le_trans Z_247 (Nat.le_of_eq g246.symm)
            have lt_mg_248 := (Nat.lt_of_lt_of_le lt_mg_244 K242.1)
            have ne_mg_ca : mg ≠ ca := (Nat.ne_of_lt (Nat.lt_of_lt_of_le lt_mg_248 (Nat.le_of_eq g246.symm)))
            have ne_x_ca : x ≠ ca := (Nat.ne_of_lt (Nat.lt_of_lt_of_le lt_x (Nat.le_of_eq g246.symm)))
            have V_ca : Arv Z h246 ca k246 .char (0 : Int32) [] (.int (0 : Int32)) := (Arv.new A246 (by decide)).pad (pad_rep [] (.int (0 : Int32)) 0)
            have K246 : Keep h242 h246 [] := (Keep.refl _ []).ext E246
            have hs249 : ∀ sx_ ∈ ([] : List Addr), Safe Z own_EL s.vm h242 sx_ := all0
            have R249 := R245.trans (CHr.keep K246 hs249 R245.1)
            have lt_ca : ca < h246.size := V_ca.lt
            have E_x_250 := (A242.keep K246)
            have F_value_x_251 := (F_value_x.keep K246 nin0)
            have F_coder_x_252 := (F_coder_x.keep K246 nin0)
            have HK_254 := (Nat.le_trans (Nat.le_trans (Nat.le_trans (Nat.le_trans hk0 K101.1) K104.1) K242.1) K246.1)
            have go255 : ∀ tg_, Steps p.tables e below (T246.setTop (mkF m 274 #[.val (.int p1), .val (.int p2), .val (.int p3), .val (.int p4), .val (.ref mg), .val (.int kk), .val (.int c), .val (.int mu), .val (.int sel), .val (.int ln), .val (.int c1), .val (.int c2), .unset] [(.ref ca), (.ref x), (.ref x), (.ref mg)])) tg_ → Steps p.tables e below (s₁.setTop (entryFrame m #[(.int p1), (.int p2), (.int p3), (.int p4)] maxLocals)) tg_ := fun tg_ k => go241 tg_ (by
                show Steps p.tables e below (T104.setTop (mkF m 262 #[.val (.int p1), .val (.int p2), .val (.int p3), .val (.int p4), .val (.ref mg), .val (.int kk), .val (.int c), .val (.int mu), .val (.int sel), .val (.int ln), .val (.int c1), .val (.int c2), .unset] [(.int ln)])) _
                refine XS.ifNo X104.here hx rfl (hb hby at_262) rfl ((if0 _ _).trans (teq (hl : ln = (0 : Int32))).2) ?_
                show Steps p.tables e below (T104.setTop (mkF m 265 #[.val (.int p1), .val (.int p2), .val (.int p3), .val (.int p4), .val (.ref mg), .val (.int kk), .val (.int c), .val (.int mu), .val (.int sel), .val (.int ln), .val (.int c1), .val (.int c2), .unset] [])) _
                refine XS.aload X104.here hx rfl (hb hby at_265) rfl rfl ?_
                show Steps p.tables e below (T104.setTop (mkF m 267 #[.val (.int p1), .val (.int p2), .val (.int p3), .val (.int p4), .val (.ref mg), .val (.int kk), .val (.int c), .val (.int mu), .val (.int sel), .val (.int ln), .val (.int c1), .val (.int c2), .unset] [(.ref mg)])) _
                refine st242 _ ?_
                show Steps p.tables e below (T242.setTop (mkF m 270 #[.val (.int p1), .val (.int p2), .val (.int p3), .val (.int p4), .val (.ref mg), .val (.int kk), .val (.int c), .val (.int mu), .val (.int sel), .val (.int ln), .val (.int c1), .val (.int c2), .unset] [(.ref x), (.ref mg)])) _
                refine XS.dup X242.here hx rfl (hb hby at_270) rfl rfl ?_
                show Steps p.tables e below (T242.setTop (mkF m 271 #[.val (.int p1), .val (.int p2), .val (.int p3), .val (.int p4), .val (.ref mg), .val (.int kk), .val (.int c), .val (.int mu), .val (.int sel), .val (.int ln), .val (.int c1), .val (.int c2), .unset] [(.ref x), (.ref x), (.ref mg)])) _
                refine XS.iconst X242.here hx rfl (hb hby at_271) ?_
                show Steps p.tables e below (T242.setTop (mkF m 272 #[.val (.int p1), .val (.int p2), .val (.int p3), .val (.int p4), .val (.ref mg), .val (.int kk), .val (.int c), .val (.int mu), .val (.int sel), .val (.int ln), .val (.int c1), .val (.int c2), .unset] [(.int (0 : Int32)), (.ref x), (.ref x), (.ref mg)])) _
                refine st246 _ ?_
                exact k)
            obtain ⟨_, _, ⟨T253, L253, kk253, nn253⟩, -, Y253, hT253, gr253, ⟨Lc253, hQ253, l253, y253, z253, C253⟩, st253⟩ := X246.specialBackS hx (y := (⟨"java/lang/String", "<init>", "([C)V"⟩ : MethodName)) rfl hown (mvT hZ (hw _ (List.mem_of_getElem? (i := 23) rfl))) (mvT hZ (hw _ (List.mem_of_getElem? (i := 24) rfl))) (mvT hZ (hw _ (List.mem_of_getElem? (i := 25) rfl))) (by decide) (backOfSH (W := 2) (rmEC l Z a0 hw [] x ca k246 _ h246 n0 g_x E_x_250 F_value_x_251 F_coder_x_252 V_ca) hZ (hw _ (List.mem_of_getElem? (i := 25) rfl)) (hw _ (List.mem_of_getElem? (i := 22) rfl)) (by decide) (by decide) hEL R249.1) (g := (mkF m 274 #[.val (.int p1), .val (.int p2), .val (.int p3), .val (.int p4), .val (.ref mg), .val (.int kk), .val (.int c), .val (.int mu), .val (.int sel), .val (.int ln), .val (.int c1), .val (.int c2), .unset] [(.ref ca), (.ref x), (.ref x), (.ref mg)])) rfl (by rw [hml]; rfl) (Steps.refl _) (a := x) (argsL := [(.ref ca)]) (rest := [(.ref x), (.ref mg)]) (lenOf pd___C_V rfl) rfl (by show 2 * 0 + _ ≤ _; exact Nat.le_of_eq rfl) (hb hby at_274) (fun _ _ => ⟨rfl, e246, Nat.le_of_ble_eq_true rfl, Nat.le_of_ble_eq_true rfl⟩)
            dsimp only [Pt.U, Pt.locs, Pt.cells, Pt.slots] at Y253 hT253 gr253 l253 y253 z253 C253 st253 hQ253
            subst l253 y253 z253
            obtain ⟨X253, hS253, hZ, hown⟩ := rebS hS0 (by rw [e246]; exact HK_254) Y253 hT253 gr253 hZ hown
            have hk253 := Nat.le_refl T253.heap.size
            obtain ⟨rfl, Nq253, K253, Eq253, Fc253, t253, kb253, -, Fv253, Vt253⟩ := hQ253
            have N253 := Fr.app N104 Nq253
            have R256 := R249.trans C253
            have O_257 := ((((O_103.keep K104 (allS g_mg all0)).keep K242 all0).keep K246 all0).keep K253 (allS g_x all0))
            obtain ⟨r, hr1, rt⟩ := rmIA l Z a0 hw [] mg x t253 kb253 [] G1 T253.heap n0 Eq253 Fv253 Fc253 Vt253 (fun c hc => nomatch hc) (by simp [own_L0, own_L1, own_L2, own_L3, own_L4]) O2 P5 O_257
            obtain rfl : r = 0 := by
              rcases hr1 with ⟨-, h⟩ | ⟨h, -⟩
              · exact absurd h (own_short (Nat.le_of_ble_eq_true rfl))
              · exact h
            have E_mg_258 := (((Em104.keep K242).keep K246).keep K253)
            have go260 : ∀ tg_, Steps p.tables e below (T253.setTop (mkF m 277 #[.val (.int p1), .val (.int p2), .val (.int p3), .val (.int p4), .val (.ref mg), .val (.int kk), .val (.int c), .val (.int mu), .val (.int sel), .val (.int ln), .val (.int c1), .val (.int c2), .unset] [(.ref x), (.ref mg)])) tg_ → Steps p.tables e below (s₁.setTop (entryFrame m #[(.int p1), (.int p2), (.int p3), (.int p4)] maxLocals)) tg_ := fun tg_ k => go255 tg_ (by
                show Steps p.tables e below (T246.setTop (mkF m 274 #[.val (.int p1), .val (.int p2), .val (.int p3), .val (.int p4), .val (.ref mg), .val (.int kk), .val (.int c), .val (.int mu), .val (.int sel), .val (.int ln), .val (.int c1), .val (.int c2), .unset] [(.ref ca), (.ref x), (.ref x), (.ref mg)])) _
                refine st253.trans ?_
                exact k)
            obtain ⟨cq259, kq259, q259a, q259b, q259c⟩ := isOf hZ rfl E_mg_258
            obtain ⟨_, _, ⟨T259, L259, kk259, nn259⟩, -, Y259, hT259, gr259, ⟨Lc259, hQ259, l259, y259, z259, C259⟩, st259⟩ := X253.virtualBackS hx (y := (⟨"com/example/tramway/tramway/poa/TramwayPoaManager", "_is_a", "(Ljava/lang/String;)Z"⟩ : MethodName)) (z := (⟨"com/example/tramway/tramway/poa/TramwayPoaManager", "_is_a", "(Ljava/lang/String;)Z"⟩ : MethodName)) hown (mvT hZ (hw _ (List.mem_of_getElem? (i := 47) rfl))) (mvT hZ (hw _ (List.mem_of_getElem? (i := 48) rfl))) (notFace_of_selects (args := #[]) (mvT hZ (hw _ (List.mem_of_getElem? (i := 50) rfl)))) (mvT hZ (hw _ (List.mem_of_getElem? (i := 50) rfl))) (mvT hZ (hw _ (List.mem_of_getElem? (i := 49) rfl))) (by decide) (backOfSH (W := 0) (rt) hZ (hw _ (List.mem_of_getElem? (i := 51) rfl)) (hw _ (List.mem_of_getElem? (i := 2) rfl)) (by decide) (by decide) hEL R256.1) q259a q259c (g := (mkF m 277 #[.val (.int p1), .val (.int p2), .val (.int p3), .val (.int p4), .val (.ref mg), .val (.int kk), .val (.int c), .val (.int mu), .val (.int sel), .val (.int ln), .val (.int c1), .val (.int c2), .unset] [(.ref x), (.ref mg)])) rfl (by rw [hml]; rfl) (Steps.refl _) (argsL := [(.ref x)]) (rest := []) (lenOf pd__Ljava_lang_String__Z rfl) rfl (by show 2 * 0 + _ ≤ _; exact Nat.le_of_eq rfl) (hb hby at_277) (fun _ _ => ⟨rfl, rfl, Nat.le_of_ble_eq_true rfl, Nat.le_of_ble_eq_true rfl⟩)
            dsimp only [Pt.U, Pt.locs, Pt.cells, Pt.slots] at Y259 hT259 gr259 l259 y259 z259 C259 st259 hQ259
            subst l259 y259 z259
            obtain ⟨X259, hS259, hZ, hown⟩ := rebS hS253 hk253 Y259 hT259 gr259 hZ hown
            have hk259 := Nat.le_refl T259.heap.size
            obtain ⟨rfl, Nq259, K259⟩ := hQ259
            have N259 := Fr.app N253 Nq259
            have R261 := R256.trans C259
            obtain ⟨fs, hr, hrun, hended, hRE⟩ := X259.leaveW hS259 hk259 (v := some (.int (1 : Int32))) (fun h => by rw [Bd.returns] at h; cases h)
            refine ⟨_, _, go260 _ ?_, hrun, hended, _, _, rfl, ?_, ?_, hRE.1, hRE.2.1, hRE.2.2.1, hRE.2.2.2.mono (by decide) (by decide)⟩
            · show Steps p.tables e below (T253.setTop (mkF m 277 #[.val (.int p1), .val (.int p2), .val (.int p3), .val (.int p4), .val (.ref mg), .val (.int kk), .val (.int c), .val (.int mu), .val (.int sel), .val (.int ln), .val (.int c1), .val (.int c2), .unset] [(.ref x), (.ref mg)])) _
              refine st259.trans ?_
              show Steps p.tables e below (T259.setTop (mkF m 280 #[.val (.int p1), .val (.int p2), .val (.int p3), .val (.int p4), .val (.ref mg), .val (.int kk), .val (.int c), .val (.int mu), .val (.int sel), .val (.int ln), .val (.int c1), .val (.int c2), .unset] [(.int (0 : Int32))])) _
              refine XS.ifNo X259.here hx rfl (hb hby at_280) rfl ((if0 _ _).trans (teq (rfl : (0 : Int32) = (0 : Int32))).2) ?_
              show Steps p.tables e below (T259.setTop (mkF m 283 #[.val (.int p1), .val (.int p2), .val (.int p3), .val (.int p4), .val (.ref mg), .val (.int kk), .val (.int c), .val (.int mu), .val (.int sel), .val (.int ln), .val (.int c1), .val (.int c2), .unset] [])) _
              refine XS.iconst X259.here hx rfl (hb hby at_283) ?_
              show Steps p.tables e below (T259.setTop (mkF m 284 #[.val (.int p1), .val (.int p2), .val (.int p3), .val (.int p4), .val (.ref mg), .val (.int kk), .val (.int c), .val (.int mu), .val (.int sel), .val (.int ln), .val (.int c1), .val (.int c2), .unset] [(.int (1 : Int32))])) _
              refine XS.goto X259.here hx rfl (pc0 := 284) (pc' := 288) rfl (hb hby at_284) (by decide) (by decide) ?_
              show Steps p.tables e below (T259.setTop (mkF m 288 #[.val (.int p1), .val (.int p2), .val (.int p3), .val (.int p4), .val (.ref mg), .val (.int kk), .val (.int c), .val (.int mu), .val (.int sel), .val (.int ln), .val (.int c1), .val (.int c2), .unset] [(.int (1 : Int32))])) _
              exact retN X259 hx (t := .boolean) Bd.returns (by simp) (hb hby at_288) hr
            · show Q0 h0 n0 _ T259.heap _
              exact ⟨rfl, N259⟩
            · show CHr Z own_EL s.vm s.heap T259.vm T259.heap
              rw [hh]
              exact R261.trans (CHv.at X259 hZ hEL R261.1)
          · by_cases hl1 : ln = 1
            · have hl := hl1
              have Z_262 := (Nat.le_trans (Nat.le_trans Z0 K101.1) K104.1)
              have O_263 := (O_103.keep K104 (allS g_mg all0))
              obtain ⟨_, _, ⟨T264, L264, kk264, nn264⟩, -, X264, ⟨Lc264, hQ264, l264, y264, z264⟩, st264⟩ := Jvm.LawKit.callS X104 hx (y := (⟨"java/lang/String", "valueOf", "(C)Ljava/lang/String;"⟩ : MethodName)) hown (mvT hZ (hw _ (List.mem_of_getElem? (i := 70) rfl))) (mvT hZ (hw _ (List.mem_of_getElem? (i := 71) rfl))) (mvT hZ (hw _ (List.mem_of_getElem? (i := 22) rfl))) (mvT hZ (hw _ (List.mem_of_getElem? (i := 72) rfl))) (by decide) (backOf (W := 1) (rmVO l Z a0 hw [] c G1 T104.heap n0 Z_262 (O2.ext O_263.2) P5 (rc.2.2 ▸ rc.2.1)) hZ (hw _ (List.mem_of_getElem? (i := 72) rfl)) (hw _ (List.mem_of_getElem? (i := 22) rfl)) (by decide) (by decide)) (g := (mkF m 299 #[.val (.int p1), .val (.int p2), .val (.int p3), .val (.int p4), .val (.ref mg), .val (.int kk), .val (.int c), .val (.int mu), .val (.int sel), .val (.int ln), .val (.int c1), .val (.int c2), .unset] [(.int c), (.ref mg)])) rfl (by rw [hml]; rfl) (argsL := [(.int c)]) (rest := [(.ref mg)]) (lenOf pd__C_Ljava_lang_String_ rfl) rfl (by show 2 * 0 + _ ≤ _; exact Nat.le_of_eq rfl) (hb hby at_299) (fun _ _ => ⟨rfl, rfl, Nat.le_of_ble_eq_true rfl, Nat.le_of_ble_eq_true rfl⟩)
              dsimp only [Pt.U, Pt.locs, Pt.cells, Pt.slots] at X264 l264 y264 z264 st264 hQ264
              subst l264 y264 z264
              obtain ⟨sv264, tv264, kv264, rfl, Nq264, K264, -, -, -, -, -, Ev264, Fv264, Fc264, Vv264⟩ := hQ264
              have N264 := Fr.app N104 Nq264
              have hs265 : ∀ sx_ ∈ ([] : List Addr), Safe Z own_EL s.vm T104.heap sx_ := all0
              have R265 := R105.trans (CHr.keep K264 hs265 R105.1)
              have O_266 := (O_263.keep K264 all0)
              obtain ⟨r, hr1, rt⟩ := rmIA l Z a0 hw [] mg sv264 tv264 kv264 [c] G1 T264.heap n0 Ev264 Fv264 Fc264 Vv264 (fun z hz => by rcases List.mem_singleton.mp hz with rfl; exact ⟨rc.2.2 ▸ rc.1, rc.2.2 ▸ rc.2.1⟩) (by simp [own_L0, own_L1, own_L2, own_L3, own_L4]) O2 P5 O_266
              obtain rfl : r = 0 := by
                rcases hr1 with ⟨-, h⟩ | ⟨h, -⟩
                · exact absurd h (own_short (Nat.le_of_ble_eq_true rfl))
                · exact h
              have E_mg_267 := (Em104.keep K264)
              have HK_269 := (Nat.le_trans (Nat.le_trans (Nat.le_trans hk0 K101.1) K104.1) K264.1)
              have go270 : ∀ tg_, Steps p.tables e below (T264.setTop (mkF m 302 #[.val (.int p1), .val (.int p2), .val (.int p3), .val (.int p4), .val (.ref mg), .val (.int kk), .val (.int c), .val (.int mu), .val (.int sel), .val (.int ln), .val (.int c1), .val (.int c2), .unset] [(.ref sv264), (.ref mg)])) tg_ → Steps p.tables e below (s₁.setTop (entryFrame m #[(.int p1), (.int p2), (.int p3), (.int p4)] maxLocals)) tg_ := fun tg_ k => go241 tg_ (by
                  show Steps p.tables e below (T104.setTop (mkF m 262 #[.val (.int p1), .val (.int p2), .val (.int p3), .val (.int p4), .val (.ref mg), .val (.int kk), .val (.int c), .val (.int mu), .val (.int sel), .val (.int ln), .val (.int c1), .val (.int c2), .unset] [(.int ln)])) _
                  refine XS.ifYes X104.here hx rfl (pc0 := 262) (pc' := 289) rfl (hb hby at_262) rfl ((if0 _ _).trans (feq (hl0 : ¬ (ln = (0 : Int32)))).2) (by decide) (by decide) ?_
                  show Steps p.tables e below (T104.setTop (mkF m 289 #[.val (.int p1), .val (.int p2), .val (.int p3), .val (.int p4), .val (.ref mg), .val (.int kk), .val (.int c), .val (.int mu), .val (.int sel), .val (.int ln), .val (.int c1), .val (.int c2), .unset] [])) _
                  refine XS.iload X104.here hx rfl (hb hby at_289) rfl ?_
                  show Steps p.tables e below (T104.setTop (mkF m 291 #[.val (.int p1), .val (.int p2), .val (.int p3), .val (.int p4), .val (.ref mg), .val (.int kk), .val (.int c), .val (.int mu), .val (.int sel), .val (.int ln), .val (.int c1), .val (.int c2), .unset] [(.int ln)])) _
                  refine XS.iconst X104.here hx rfl (hb hby at_291) ?_
                  show Steps p.tables e below (T104.setTop (mkF m 292 #[.val (.int p1), .val (.int p2), .val (.int p3), .val (.int p4), .val (.ref mg), .val (.int kk), .val (.int c), .val (.int mu), .val (.int sel), .val (.int ln), .val (.int c1), .val (.int c2), .unset] [(.int (1 : Int32)), (.int ln)])) _
                  refine XS.icmpNo X104.here hx rfl (hb hby at_292) rfl (teq (hl : ln = (1 : Int32))).2 ?_
                  show Steps p.tables e below (T104.setTop (mkF m 295 #[.val (.int p1), .val (.int p2), .val (.int p3), .val (.int p4), .val (.ref mg), .val (.int kk), .val (.int c), .val (.int mu), .val (.int sel), .val (.int ln), .val (.int c1), .val (.int c2), .unset] [])) _
                  refine XS.aload X104.here hx rfl (hb hby at_295) rfl rfl ?_
                  show Steps p.tables e below (T104.setTop (mkF m 297 #[.val (.int p1), .val (.int p2), .val (.int p3), .val (.int p4), .val (.ref mg), .val (.int kk), .val (.int c), .val (.int mu), .val (.int sel), .val (.int ln), .val (.int c1), .val (.int c2), .unset] [(.ref mg)])) _
                  refine XS.iload X104.here hx rfl (hb hby at_297) rfl ?_
                  show Steps p.tables e below (T104.setTop (mkF m 299 #[.val (.int p1), .val (.int p2), .val (.int p3), .val (.int p4), .val (.ref mg), .val (.int kk), .val (.int c), .val (.int mu), .val (.int sel), .val (.int ln), .val (.int c1), .val (.int c2), .unset] [(.int c), (.ref mg)])) _
                  refine st264 _ ?_
                  exact k)
              obtain ⟨cq268, kq268, q268a, q268b, q268c⟩ := isOf hZ rfl E_mg_267
              obtain ⟨_, _, ⟨T268, L268, kk268, nn268⟩, -, Y268, hT268, gr268, ⟨Lc268, hQ268, l268, y268, z268, C268⟩, st268⟩ := X264.virtualBackS hx (y := (⟨"com/example/tramway/tramway/poa/TramwayPoaManager", "_is_a", "(Ljava/lang/String;)Z"⟩ : MethodName)) (z := (⟨"com/example/tramway/tramway/poa/TramwayPoaManager", "_is_a", "(Ljava/lang/String;)Z"⟩ : MethodName)) hown (mvT hZ (hw _ (List.mem_of_getElem? (i := 47) rfl))) (mvT hZ (hw _ (List.mem_of_getElem? (i := 48) rfl))) (notFace_of_selects (args := #[]) (mvT hZ (hw _ (List.mem_of_getElem? (i := 50) rfl)))) (mvT hZ (hw _ (List.mem_of_getElem? (i := 50) rfl))) (mvT hZ (hw _ (List.mem_of_getElem? (i := 49) rfl))) (by decide) (backOfSH (W := 0) (rt) hZ (hw _ (List.mem_of_getElem? (i := 51) rfl)) (hw _ (List.mem_of_getElem? (i := 2) rfl)) (by decide) (by decide) hEL R265.1) q268a q268c (g := (mkF m 302 #[.val (.int p1), .val (.int p2), .val (.int p3), .val (.int p4), .val (.ref mg), .val (.int kk), .val (.int c), .val (.int mu), .val (.int sel), .val (.int ln), .val (.int c1), .val (.int c2), .unset] [(.ref sv264), (.ref mg)])) rfl (by rw [hml]; rfl) (Steps.refl _) (argsL := [(.ref sv264)]) (rest := []) (lenOf pd__Ljava_lang_String__Z rfl) rfl (by show 2 * 0 + _ ≤ _; exact Nat.le_of_eq rfl) (hb hby at_302) (fun _ _ => ⟨rfl, rfl, Nat.le_of_ble_eq_true rfl, Nat.le_of_ble_eq_true rfl⟩)
              dsimp only [Pt.U, Pt.locs, Pt.cells, Pt.slots] at Y268 hT268 gr268 l268 y268 z268 C268 st268 hQ268
              subst l268 y268 z268
              obtain ⟨X268, hS268, hZ, hown⟩ := rebS hS0 HK_269 Y268 hT268 gr268 hZ hown
              have hk268 := Nat.le_refl T268.heap.size
              obtain ⟨rfl, Nq268, K268⟩ := hQ268
              have N268 := Fr.app N264 Nq268
              have R271 := R265.trans C268
              obtain ⟨fs, hr, hrun, hended, hRE⟩ := X268.leaveW hS268 hk268 (v := some (.int (1 : Int32))) (fun h => by rw [Bd.returns] at h; cases h)
              refine ⟨_, _, go270 _ ?_, hrun, hended, _, _, rfl, ?_, ?_, hRE.1, hRE.2.1, hRE.2.2.1, hRE.2.2.2.mono (by decide) (by decide)⟩
              · show Steps p.tables e below (T264.setTop (mkF m 302 #[.val (.int p1), .val (.int p2), .val (.int p3), .val (.int p4), .val (.ref mg), .val (.int kk), .val (.int c), .val (.int mu), .val (.int sel), .val (.int ln), .val (.int c1), .val (.int c2), .unset] [(.ref sv264), (.ref mg)])) _
                refine st268.trans ?_
                show Steps p.tables e below (T268.setTop (mkF m 305 #[.val (.int p1), .val (.int p2), .val (.int p3), .val (.int p4), .val (.ref mg), .val (.int kk), .val (.int c), .val (.int mu), .val (.int sel), .val (.int ln), .val (.int c1), .val (.int c2), .unset] [(.int (0 : Int32))])) _
                refine XS.ifNo X268.here hx rfl (hb hby at_305) rfl ((if0 _ _).trans (teq (rfl : (0 : Int32) = (0 : Int32))).2) ?_
                show Steps p.tables e below (T268.setTop (mkF m 308 #[.val (.int p1), .val (.int p2), .val (.int p3), .val (.int p4), .val (.ref mg), .val (.int kk), .val (.int c), .val (.int mu), .val (.int sel), .val (.int ln), .val (.int c1), .val (.int c2), .unset] [])) _
                refine XS.iconst X268.here hx rfl (hb hby at_308) ?_
                show Steps p.tables e below (T268.setTop (mkF m 309 #[.val (.int p1), .val (.int p2), .val (.int p3), .val (.int p4), .val (.ref mg), .val (.int kk), .val (.int c), .val (.int mu), .val (.int sel), .val (.int ln), .val (.int c1), .val (.int c2), .unset] [(.int (1 : Int32))])) _
                refine XS.goto X268.here hx rfl (pc0 := 309) (pc' := 313) rfl (hb hby at_309) (by decide) (by decide) ?_
                show Steps p.tables e below (T268.setTop (mkF m 313 #[.val (.int p1), .val (.int p2), .val (.int p3), .val (.int p4), .val (.ref mg), .val (.int kk), .val (.int c), .val (.int mu), .val (.int sel), .val (.int ln), .val (.int c1), .val (.int c2), .unset] [(.int (1 : Int32))])) _
                exact retN X268 hx (t := .boolean) Bd.returns (by simp) (hb hby at_313) hr
              · show Q0 h0 n0 _ T268.heap _
                exact ⟨rfl, N268⟩
              · show CHr Z own_EL s.vm s.heap T268.vm T268.heap
                rw [hh]
                exact R271.trans (CHv.at X268 hZ hEL R271.1)
            · by_cases hl : ln = 2
              · obtain ⟨T272, h272, X272, e272, E272, A272, D272, -, st272⟩ := newO X104 hx hZ hown (hw _ (List.mem_of_getElem? (i := 20) rfl)) (hw _ (List.mem_of_getElem? (i := 21) rfl)) (hw _ (List.mem_of_getElem? (i := 22) rfl)) rfl (g := (mkF m 322 #[.val (.int p1), .val (.int p2), .val (.int p3), .val (.int p4), .val (.ref mg), .val (.int kk), .val (.int c), .val (.int mu), .val (.int sel), .val (.int ln), .val (.int c1), .val (.int c2), .unset] [(.ref mg)])) rfl (hb hby at_322) (by decide) (by decide)
                obtain ⟨x, g272⟩ : ∃ z, z = T104.heap.size := ⟨_, rfl⟩
                rw [← g272] at A272 D272 st272
                have Z_273 := (Nat.le_trans (Nat.le_trans Z0 K101.1) K104.1)
                have g_x : n0 ≤ x := Nat.le_trans Z_273 (Nat.le_of_eq g272.symm)
                have lt_mg_274 := (Nat.lt_of_lt_of_le lt_mg K104.1)
                have ne_mg_x : mg ≠ x := (Nat.ne_of_lt (Nat.lt_of_lt_of_le lt_mg_274 (Nat.le_of_eq g272.symm)))
                have F_coder_x : Fld Z h272 x "java/lang/String" "coder" "B" (.int (0 : Int32)) := D272 (Or.inr (hw _ (List.mem_of_getElem? (i := 44) rfl))) (ty := .byte) (by decide)
                have F_value_x : Fld Z h272 x "java/lang/String" "value" "[B" .null := D272 (Or.inr (hw _ (List.mem_of_getElem? (i := 46) rfl))) (ty := (.array .byte)) (by decide)
                have K272 : Keep T104.heap h272 [] := (Keep.refl _ []).ext E272
                have hs275 : ∀ sx_ ∈ ([] : List Addr), Safe Z own_EL s.vm T104.heap sx_ := all0
                have R275 := R105.trans (CHr.keep K272 hs275 R105.1)
                have lt_x : x < h272.size := A272.lt
                obtain ⟨T276, h276, k276, X276, e276, E276, A276, st276⟩ := newP X272 hx hZ (hw _ (List.mem_of_getElem? (i := 19) rfl)) e272 (g := (mkF m 327 #[.val (.int p1), .val (.int p2), .val (.int p3), .val (.int p4), .val (.ref mg), .val (.int kk), .val (.int c), .val (.int mu), .val (.int sel), .val (.int ln), .val (.int c1), .val (.int c2), .unset] [(.int (2 : Int32)), (.ref x), (.ref x), (.ref mg)])) rfl (hb hby at_327) rfl (by decide) (cap := 2) (by decide) (by decide) (by decide) (by decide)
                obtain ⟨ca, g276⟩ : ∃ z, z = h272.size := ⟨_, rfl⟩
                rw [← g276] at A276 st276
                have Z_277 := (Nat.le_trans Z_273 K272.1)
                have g_ca : n0 ≤ ca := Nat.le_trans Z_277 (Nat.le_of_eq g276.symm)
                have lt_mg_278 := (Nat.lt_of_lt_of_le lt_mg_274 K272.1)
                have ne_mg_ca : mg ≠ ca := (Nat.ne_of_lt (Nat.lt_of_lt_of_le lt_mg_278 (Nat.le_of_eq g276.symm)))
                have ne_x_ca : x ≠ ca := (Nat.ne_of_lt (Nat.lt_of_lt_of_le lt_x (Nat.le_of_eq g276.symm)))
                have V_ca : Arv Z h276 ca k276 .char (2 : Int32) [(.int (0 : Int32)), (.int (0 : Int32))] (.int (0 : Int32)) := (Arv.new A276 (by decide)).pad (pad_rep [] (.int (0 : Int32)) 2)
                have K276 : Keep h272 h276 [] := (Keep.refl _ []).ext E276
                have hs279 : ∀ sx_ ∈ ([] : List Addr), Safe Z own_EL s.vm h272 sx_ := all0
                have R279 := R275.trans (CHr.keep K276 hs279 R275.1)
                have lt_ca : ca < h276.size := V_ca.lt
                obtain ⟨cl280, Ar280, q280, S280, M280, Hh280, G280⟩ := id V_ca
                obtain ⟨T280, h280, X280, e280, W280, st280⟩ := stC X276 hx hZ e276 Ar280 (j := (0 : Int32)) (inb_of S280 ⟨by decide, by decide⟩) (g := (mkF m 333 #[.val (.int p1), .val (.int p2), .val (.int p3), .val (.int p4), .val (.ref mg), .val (.int kk), .val (.int c), .val (.int mu), .val (.int sel), .val (.int ln), .val (.int c1), .val (.int c2), .unset] [(.int c), (.int (0 : Int32)), (.ref ca), (.ref ca), (.ref x), (.ref x), (.ref mg)])) rfl rfl (hb hby at_333)
                have V_ca_280 : Arv Z h280 ca k276 .char (2 : Int32) [(.int (nar .char c)), (.int (0 : Int32))] (.int (0 : Int32)) := Arv.set Ar280 q280 S280 M280 Hh280 G280 (fits_nar_char _) W280 0 rfl (Nat.le_of_ble_eq_true rfl)
                have K280 : Keep h276 h280 [ca] := Keep.of_wr W280
                have hs281 : ∀ sx_ ∈ ([ca] : List Addr), Safe Z own_EL s.vm h276 sx_ := (allS (Safe.arr hZ.alike Ar280 (by decide)) all0)
                have R281 := R279.trans (CHr.keep K280 hs281 R279.1)
                have N280 := Fr.snoc X280 N104 g_ca
                obtain ⟨cl282, Ar282, q282, S282, M282, Hh282, G282⟩ := id V_ca_280
                obtain ⟨T282, h282, X282, e282, W282, st282⟩ := stC X280 hx hZ e280 Ar282 (j := (1 : Int32)) (inb_of S282 ⟨by decide, by decide⟩) (g := (mkF m 338 #[.val (.int p1), .val (.int p2), .val (.int p3), .val (.int p4), .val (.ref mg), .val (.int kk), .val (.int c), .val (.int mu), .val (.int sel), .val (.int ln), .val (.int c1), .val (.int c2), .unset] [(.int c1), (.int (1 : Int32)), (.ref ca), (.ref ca), (.ref x), (.ref x), (.ref mg)])) rfl rfl (hb hby at_338)
                have V_ca_282 : Arv Z h282 ca k276 .char (2 : Int32) [(.int (nar .char c)), (.int (nar .char c1))] (.int (0 : Int32)) := Arv.set Ar282 q282 S282 M282 Hh282 G282 (fits_nar_char _) W282 1 rfl (Nat.le_of_ble_eq_true rfl)
                have K282 : Keep h280 h282 [ca] := Keep.of_wr W282
                have hs283 : ∀ sx_ ∈ ([ca] : List Addr), Safe Z own_EL s.vm h280 sx_ := (allS (Safe.arr hZ.alike Ar282 (by decide)) all0)
                have R283 := R281.trans (CHr.keep K282 hs283 R281.1)
                have N282 := Fr.snoc X282 N280 g_ca
                have hp284 : ∀ z ∈ ([nar .char c, nar .char c1] : List Int32), ¬ z < 0 ∧ ¬ (255 : Int32) < z := by
                  intro z hz
                  simp only [List.mem_cons, List.not_mem_nil, or_false] at hz
                  rcases hz with rfl | rfl
                  · exact ⟨rc.1, rc.2.1⟩
                  · exact ⟨rc1.1, rc1.2.1⟩
                have E_x_285 := (((A272.keep K276).keep K280).keep K282)
                have F_value_x_286 := (((F_value_x.keep K276 nin0).keep K280 (ninS ne_x_ca nin0)).keep K282 (ninS ne_x_ca nin0))
                have sfx : Safe Z own_EL s.vm h282 x := own_safe_null hZ.alike E_x_285 F_value_x_286 (hw _ (List.mem_of_getElem? (i := 21) rfl))
                have Z_287 := (Nat.le_trans (Nat.le_trans (Nat.le_trans Z_277 K276.1) K280.1) K282.1)
                have O_288 := (((((O_103.keep K104 (allS g_mg all0)).keep K272 all0).keep K276 all0).keep K280 (allS g_ca all0)).keep K282 (allS g_ca all0))
                have F_coder_x_289 := (((F_coder_x.keep K276 nin0).keep K280 (ninS ne_x_ca nin0)).keep K282 (ninS ne_x_ca nin0))
                obtain ⟨_, _, ⟨T290, L290, kk290, nn290⟩, -, X290, ⟨Lc290, hQ290, l290, y290, z290⟩, st290⟩ := X282.specialBack hx (y := (⟨"java/lang/String", "<init>", "([C)V"⟩ : MethodName)) rfl hown (mvT hZ (hw _ (List.mem_of_getElem? (i := 23) rfl))) (mvT hZ (hw _ (List.mem_of_getElem? (i := 24) rfl))) (mvT hZ (hw _ (List.mem_of_getElem? (i := 25) rfl))) (by decide) (StrChars.Road.backV (W := 2) hZ hws (kI := 4) (hw _ (List.mem_of_getElem? (i := 21) rfl)) (cs := [nar .char c, nar .char c1]) (bs := ([nar .char c, nar .char c1]).map (fun c => c.toInt8.toInt32)) (n := 2) g_x Z_287 E_x_285 F_value_x_286 F_coder_x_289 V_ca_282 (O2.ext O_288.2) P5 (by simp [own_L0, own_L1]) rfl (by decide) (by decide) hp284 rfl (by decide) (by decide)) (g := (mkF m 339 #[.val (.int p1), .val (.int p2), .val (.int p3), .val (.int p4), .val (.ref mg), .val (.int kk), .val (.int c), .val (.int mu), .val (.int sel), .val (.int ln), .val (.int c1), .val (.int c2), .unset] [(.ref ca), (.ref x), (.ref x), (.ref mg)])) rfl (by rw [hml]; rfl) (Steps.refl _) (a := x) (argsL := [(.ref ca)]) (rest := [(.ref x), (.ref mg)]) (lenOf pd___C_V rfl) rfl (by show 2 * 0 + _ ≤ _; exact Nat.le_of_eq rfl) (hb hby at_339) (fun _ _ => ⟨rfl, e282, Nat.le_of_ble_eq_true rfl, Nat.le_of_ble_eq_true rfl⟩)
                dsimp only [Pt.U, Pt.locs, Pt.cells, Pt.slots] at X290 l290 y290 z290 st290 hQ290
                subst l290 y290 z290
                obtain ⟨rfl, Nq290, K290, Eq290, Fc290, t290, kb290, g_t290, le290, nx290, Fv290, V_t290⟩ := hQ290
                have N290 := Fr.app N282 Nq290
                have hs291 : ∀ sx_ ∈ ([x] : List Addr), Safe Z own_EL s.vm h282 sx_ := (allS sfx all0)
                have R291 := R283.trans (CHr.keep K290 hs291 R283.1)
                have V_t290_ : Arv Z T290.heap t290 kb290 .byte (Int32.ofNat ([nar .char c, nar .char c1]).length) ((([nar .char c, nar .char c1]).map (fun c => c.toInt8.toInt32)).map Value.int) (.int (0 : Int32)) := by
                  have e : ([nar .char c, nar .char c1]).length = 2 := by simp [own_L0, own_L1]
                  rw [e]; exact V_t290
                have O_292 := (O_288.keep K290 (allS g_x all0))
                obtain ⟨r, hr1, rt⟩ := rmIA l Z a0 hw [] mg x t290 kb290 [nar .char c, nar .char c1] G1 T290.heap n0 Eq290 Fv290 Fc290 V_t290_ hp284 (by simp [own_L0, own_L1, own_L2, own_L3, own_L4]) O2 P5 O_292
                obtain rfl : r = 0 := by
                  rcases hr1 with ⟨-, h⟩ | ⟨h, -⟩
                  · exact absurd h (own_short (Nat.le_of_ble_eq_true rfl))
                  · exact h
                have E_mg_293 := (((((Em104.keep K272).keep K276).keep K280).keep K282).keep K290)
                have HK_295 := (Nat.le_trans (Nat.le_trans (Nat.le_trans (Nat.le_trans (Nat.le_trans (Nat.le_trans (Nat.le_trans hk0 K101.1) K104.1) K272.1) K276.1) K280.1) K282.1) K290.1)
                have go296 : ∀ tg_, Steps p.tables e below (T290.setTop (mkF m 342 #[.val (.int p1), .val (.int p2), .val (.int p3), .val (.int p4), .val (.ref mg), .val (.int kk), .val (.int c), .val (.int mu), .val (.int sel), .val (.int ln), .val (.int c1), .val (.int c2), .unset] [(.ref x), (.ref mg)])) tg_ → Steps p.tables e below (s₁.setTop (entryFrame m #[(.int p1), (.int p2), (.int p3), (.int p4)] maxLocals)) tg_ := fun tg_ k => go241 tg_ (by
                    show Steps p.tables e below (T104.setTop (mkF m 262 #[.val (.int p1), .val (.int p2), .val (.int p3), .val (.int p4), .val (.ref mg), .val (.int kk), .val (.int c), .val (.int mu), .val (.int sel), .val (.int ln), .val (.int c1), .val (.int c2), .unset] [(.int ln)])) _
                    refine XS.ifYes X104.here hx rfl (pc0 := 262) (pc' := 289) rfl (hb hby at_262) rfl ((if0 _ _).trans (feq (hl0 : ¬ (ln = (0 : Int32)))).2) (by decide) (by decide) ?_
                    show Steps p.tables e below (T104.setTop (mkF m 289 #[.val (.int p1), .val (.int p2), .val (.int p3), .val (.int p4), .val (.ref mg), .val (.int kk), .val (.int c), .val (.int mu), .val (.int sel), .val (.int ln), .val (.int c1), .val (.int c2), .unset] [])) _
                    refine XS.iload X104.here hx rfl (hb hby at_289) rfl ?_
                    show Steps p.tables e below (T104.setTop (mkF m 291 #[.val (.int p1), .val (.int p2), .val (.int p3), .val (.int p4), .val (.ref mg), .val (.int kk), .val (.int c), .val (.int mu), .val (.int sel), .val (.int ln), .val (.int c1), .val (.int c2), .unset] [(.int ln)])) _
                    refine XS.iconst X104.here hx rfl (hb hby at_291) ?_
                    show Steps p.tables e below (T104.setTop (mkF m 292 #[.val (.int p1), .val (.int p2), .val (.int p3), .val (.int p4), .val (.ref mg), .val (.int kk), .val (.int c), .val (.int mu), .val (.int sel), .val (.int ln), .val (.int c1), .val (.int c2), .unset] [(.int (1 : Int32)), (.int ln)])) _
                    refine XS.icmpYes X104.here hx rfl (pc0 := 292) (pc' := 314) rfl (hb hby at_292) rfl (feq (hl1 : ¬ (ln = (1 : Int32)))).2 (by decide) (by decide) ?_
                    show Steps p.tables e below (T104.setTop (mkF m 314 #[.val (.int p1), .val (.int p2), .val (.int p3), .val (.int p4), .val (.ref mg), .val (.int kk), .val (.int c), .val (.int mu), .val (.int sel), .val (.int ln), .val (.int c1), .val (.int c2), .unset] [])) _
                    refine XS.iload X104.here hx rfl (hb hby at_314) rfl ?_
                    show Steps p.tables e below (T104.setTop (mkF m 316 #[.val (.int p1), .val (.int p2), .val (.int p3), .val (.int p4), .val (.ref mg), .val (.int kk), .val (.int c), .val (.int mu), .val (.int sel), .val (.int ln), .val (.int c1), .val (.int c2), .unset] [(.int ln)])) _
                    refine XS.iconst X104.here hx rfl (hb hby at_316) ?_
                    show Steps p.tables e below (T104.setTop (mkF m 317 #[.val (.int p1), .val (.int p2), .val (.int p3), .val (.int p4), .val (.ref mg), .val (.int kk), .val (.int c), .val (.int mu), .val (.int sel), .val (.int ln), .val (.int c1), .val (.int c2), .unset] [(.int (2 : Int32)), (.int ln)])) _
                    refine XS.icmpNo X104.here hx rfl (hb hby at_317) rfl (teq (hl : ln = (2 : Int32))).2 ?_
                    show Steps p.tables e below (T104.setTop (mkF m 320 #[.val (.int p1), .val (.int p2), .val (.int p3), .val (.int p4), .val (.ref mg), .val (.int kk), .val (.int c), .val (.int mu), .val (.int sel), .val (.int ln), .val (.int c1), .val (.int c2), .unset] [])) _
                    refine XS.aload X104.here hx rfl (hb hby at_320) rfl rfl ?_
                    show Steps p.tables e below (T104.setTop (mkF m 322 #[.val (.int p1), .val (.int p2), .val (.int p3), .val (.int p4), .val (.ref mg), .val (.int kk), .val (.int c), .val (.int mu), .val (.int sel), .val (.int ln), .val (.int c1), .val (.int c2), .unset] [(.ref mg)])) _
                    refine st272 _ ?_
                    show Steps p.tables e below (T272.setTop (mkF m 325 #[.val (.int p1), .val (.int p2), .val (.int p3), .val (.int p4), .val (.ref mg), .val (.int kk), .val (.int c), .val (.int mu), .val (.int sel), .val (.int ln), .val (.int c1), .val (.int c2), .unset] [(.ref x), (.ref mg)])) _
                    refine XS.dup X272.here hx rfl (hb hby at_325) rfl rfl ?_
                    show Steps p.tables e below (T272.setTop (mkF m 326 #[.val (.int p1), .val (.int p2), .val (.int p3), .val (.int p4), .val (.ref mg), .val (.int kk), .val (.int c), .val (.int mu), .val (.int sel), .val (.int ln), .val (.int c1), .val (.int c2), .unset] [(.ref x), (.ref x), (.ref mg)])) _
                    refine XS.iconst X272.here hx rfl (hb hby at_326) ?_
                    show Steps p.tables e below (T272.setTop (mkF m 327 #[.val (.int p1), .val (.int p2), .val (.int p3), .val (.int p4), .val (.ref mg), .val (.int kk), .val (.int c), .val (.int mu), .val (.int sel), .val (.int ln), .val (.int c1), .val (.int c2), .unset] [(.int (2 : Int32)), (.ref x), (.ref x), (.ref mg)])) _
                    refine st276 _ ?_
                    show Steps p.tables e below (T276.setTop (mkF m 329 #[.val (.int p1), .val (.int p2), .val (.int p3), .val (.int p4), .val (.ref mg), .val (.int kk), .val (.int c), .val (.int mu), .val (.int sel), .val (.int ln), .val (.int c1), .val (.int c2), .unset] [(.ref ca), (.ref x), (.ref x), (.ref mg)])) _
                    refine XS.dup X276.here hx rfl (hb hby at_329) rfl rfl ?_
                    show Steps p.tables e below (T276.setTop (mkF m 330 #[.val (.int p1), .val (.int p2), .val (.int p3), .val (.int p4), .val (.ref mg), .val (.int kk), .val (.int c), .val (.int mu), .val (.int sel), .val (.int ln), .val (.int c1), .val (.int c2), .unset] [(.ref ca), (.ref ca), (.ref x), (.ref x), (.ref mg)])) _
                    refine XS.iconst X276.here hx rfl (hb hby at_330) ?_
                    show Steps p.tables e below (T276.setTop (mkF m 331 #[.val (.int p1), .val (.int p2), .val (.int p3), .val (.int p4), .val (.ref mg), .val (.int kk), .val (.int c), .val (.int mu), .val (.int sel), .val (.int ln), .val (.int c1), .val (.int c2), .unset] [(.int (0 : Int32)), (.ref ca), (.ref ca), (.ref x), (.ref x), (.ref mg)])) _
                    refine XS.iload X276.here hx rfl (hb hby at_331) rfl ?_
                    show Steps p.tables e below (T276.setTop (mkF m 333 #[.val (.int p1), .val (.int p2), .val (.int p3), .val (.int p4), .val (.ref mg), .val (.int kk), .val (.int c), .val (.int mu), .val (.int sel), .val (.int ln), .val (.int c1), .val (.int c2), .unset] [(.int c), (.int (0 : Int32)), (.ref ca), (.ref ca), (.ref x), (.ref x), (.ref mg)])) _
                    refine st280 _ ?_
                    show Steps p.tables e below (T280.setTop (mkF m 334 #[.val (.int p1), .val (.int p2), .val (.int p3), .val (.int p4), .val (.ref mg), .val (.int kk), .val (.int c), .val (.int mu), .val (.int sel), .val (.int ln), .val (.int c1), .val (.int c2), .unset] [(.ref ca), (.ref x), (.ref x), (.ref mg)])) _
                    refine XS.dup X280.here hx rfl (hb hby at_334) rfl rfl ?_
                    show Steps p.tables e below (T280.setTop (mkF m 335 #[.val (.int p1), .val (.int p2), .val (.int p3), .val (.int p4), .val (.ref mg), .val (.int kk), .val (.int c), .val (.int mu), .val (.int sel), .val (.int ln), .val (.int c1), .val (.int c2), .unset] [(.ref ca), (.ref ca), (.ref x), (.ref x), (.ref mg)])) _
                    refine XS.iconst X280.here hx rfl (hb hby at_335) ?_
                    show Steps p.tables e below (T280.setTop (mkF m 336 #[.val (.int p1), .val (.int p2), .val (.int p3), .val (.int p4), .val (.ref mg), .val (.int kk), .val (.int c), .val (.int mu), .val (.int sel), .val (.int ln), .val (.int c1), .val (.int c2), .unset] [(.int (1 : Int32)), (.ref ca), (.ref ca), (.ref x), (.ref x), (.ref mg)])) _
                    refine XS.iload X280.here hx rfl (hb hby at_336) rfl ?_
                    show Steps p.tables e below (T280.setTop (mkF m 338 #[.val (.int p1), .val (.int p2), .val (.int p3), .val (.int p4), .val (.ref mg), .val (.int kk), .val (.int c), .val (.int mu), .val (.int sel), .val (.int ln), .val (.int c1), .val (.int c2), .unset] [(.int c1), (.int (1 : Int32)), (.ref ca), (.ref ca), (.ref x), (.ref x), (.ref mg)])) _
                    refine st282 _ ?_
                    show Steps p.tables e below (T282.setTop (mkF m 339 #[.val (.int p1), .val (.int p2), .val (.int p3), .val (.int p4), .val (.ref mg), .val (.int kk), .val (.int c), .val (.int mu), .val (.int sel), .val (.int ln), .val (.int c1), .val (.int c2), .unset] [(.ref ca), (.ref x), (.ref x), (.ref mg)])) _
                    refine st290.trans ?_
                    exact k)
                obtain ⟨cq294, kq294, q294a, q294b, q294c⟩ := isOf hZ rfl E_mg_293
                obtain ⟨_, _, ⟨T294, L294, kk294, nn294⟩, -, Y294, hT294, gr294, ⟨Lc294, hQ294, l294, y294, z294, C294⟩, st294⟩ := X290.virtualBackS hx (y := (⟨"com/example/tramway/tramway/poa/TramwayPoaManager", "_is_a", "(Ljava/lang/String;)Z"⟩ : MethodName)) (z := (⟨"com/example/tramway/tramway/poa/TramwayPoaManager", "_is_a", "(Ljava/lang/String;)Z"⟩ : MethodName)) hown (mvT hZ (hw _ (List.mem_of_getElem? (i := 47) rfl))) (mvT hZ (hw _ (List.mem_of_getElem? (i := 48) rfl))) (notFace_of_selects (args := #[]) (mvT hZ (hw _ (List.mem_of_getElem? (i := 50) rfl)))) (mvT hZ (hw _ (List.mem_of_getElem? (i := 50) rfl))) (mvT hZ (hw _ (List.mem_of_getElem? (i := 49) rfl))) (by decide) (backOfSH (W := 0) (rt) hZ (hw _ (List.mem_of_getElem? (i := 51) rfl)) (hw _ (List.mem_of_getElem? (i := 2) rfl)) (by decide) (by decide) hEL R291.1) q294a q294c (g := (mkF m 342 #[.val (.int p1), .val (.int p2), .val (.int p3), .val (.int p4), .val (.ref mg), .val (.int kk), .val (.int c), .val (.int mu), .val (.int sel), .val (.int ln), .val (.int c1), .val (.int c2), .unset] [(.ref x), (.ref mg)])) rfl (by rw [hml]; rfl) (Steps.refl _) (argsL := [(.ref x)]) (rest := []) (lenOf pd__Ljava_lang_String__Z rfl) rfl (by show 2 * 0 + _ ≤ _; exact Nat.le_of_eq rfl) (hb hby at_342) (fun _ _ => ⟨rfl, rfl, Nat.le_of_ble_eq_true rfl, Nat.le_of_ble_eq_true rfl⟩)
                dsimp only [Pt.U, Pt.locs, Pt.cells, Pt.slots] at Y294 hT294 gr294 l294 y294 z294 C294 st294 hQ294
                subst l294 y294 z294
                obtain ⟨X294, hS294, hZ, hown⟩ := rebS hS0 HK_295 Y294 hT294 gr294 hZ hown
                have hk294 := Nat.le_refl T294.heap.size
                obtain ⟨rfl, Nq294, K294⟩ := hQ294
                have N294 := Fr.app N290 Nq294
                have R297 := R291.trans C294
                obtain ⟨fs, hr, hrun, hended, hRE⟩ := X294.leaveW hS294 hk294 (v := some (.int (1 : Int32))) (fun h => by rw [Bd.returns] at h; cases h)
                refine ⟨_, _, go296 _ ?_, hrun, hended, _, _, rfl, ?_, ?_, hRE.1, hRE.2.1, hRE.2.2.1, hRE.2.2.2.mono (by decide) (by decide)⟩
                · show Steps p.tables e below (T290.setTop (mkF m 342 #[.val (.int p1), .val (.int p2), .val (.int p3), .val (.int p4), .val (.ref mg), .val (.int kk), .val (.int c), .val (.int mu), .val (.int sel), .val (.int ln), .val (.int c1), .val (.int c2), .unset] [(.ref x), (.ref mg)])) _
                  refine st294.trans ?_
                  show Steps p.tables e below (T294.setTop (mkF m 345 #[.val (.int p1), .val (.int p2), .val (.int p3), .val (.int p4), .val (.ref mg), .val (.int kk), .val (.int c), .val (.int mu), .val (.int sel), .val (.int ln), .val (.int c1), .val (.int c2), .unset] [(.int (0 : Int32))])) _
                  refine XS.ifNo X294.here hx rfl (hb hby at_345) rfl ((if0 _ _).trans (teq (rfl : (0 : Int32) = (0 : Int32))).2) ?_
                  show Steps p.tables e below (T294.setTop (mkF m 348 #[.val (.int p1), .val (.int p2), .val (.int p3), .val (.int p4), .val (.ref mg), .val (.int kk), .val (.int c), .val (.int mu), .val (.int sel), .val (.int ln), .val (.int c1), .val (.int c2), .unset] [])) _
                  refine XS.iconst X294.here hx rfl (hb hby at_348) ?_
                  show Steps p.tables e below (T294.setTop (mkF m 349 #[.val (.int p1), .val (.int p2), .val (.int p3), .val (.int p4), .val (.ref mg), .val (.int kk), .val (.int c), .val (.int mu), .val (.int sel), .val (.int ln), .val (.int c1), .val (.int c2), .unset] [(.int (1 : Int32))])) _
                  refine XS.goto X294.here hx rfl (pc0 := 349) (pc' := 353) rfl (hb hby at_349) (by decide) (by decide) ?_
                  show Steps p.tables e below (T294.setTop (mkF m 353 #[.val (.int p1), .val (.int p2), .val (.int p3), .val (.int p4), .val (.ref mg), .val (.int kk), .val (.int c), .val (.int mu), .val (.int sel), .val (.int ln), .val (.int c1), .val (.int c2), .unset] [(.int (1 : Int32))])) _
                  exact retN X294 hx (t := .boolean) Bd.returns (by simp) (hb hby at_353) hr
                · show Q0 h0 n0 _ T294.heap _
                  exact ⟨rfl, N294⟩
                · show CHr Z own_EL s.vm s.heap T294.vm T294.heap
                  rw [hh]
                  exact R297.trans (CHv.at X294 hZ hEL R297.1)
              · obtain ⟨T298, h298, X298, e298, E298, A298, D298, -, st298⟩ := newO X104 hx hZ hown (hw _ (List.mem_of_getElem? (i := 20) rfl)) (hw _ (List.mem_of_getElem? (i := 21) rfl)) (hw _ (List.mem_of_getElem? (i := 22) rfl)) rfl (g := (mkF m 356 #[.val (.int p1), .val (.int p2), .val (.int p3), .val (.int p4), .val (.ref mg), .val (.int kk), .val (.int c), .val (.int mu), .val (.int sel), .val (.int ln), .val (.int c1), .val (.int c2), .unset] [(.ref mg)])) rfl (hb hby at_356) (by decide) (by decide)
                obtain ⟨x, g298⟩ : ∃ z, z = T104.heap.size := ⟨_, rfl⟩
                rw [← g298] at A298 D298 st298
                have Z_299 := (Nat.le_trans (Nat.le_trans Z0 K101.1) K104.1)
                have g_x : n0 ≤ x := Nat.le_trans Z_299 (Nat.le_of_eq g298.symm)
                have lt_mg_300 := (Nat.lt_of_lt_of_le lt_mg K104.1)
                have ne_mg_x : mg ≠ x := (Nat.ne_of_lt (Nat.lt_of_lt_of_le lt_mg_300 (Nat.le_of_eq g298.symm)))
                have F_coder_x : Fld Z h298 x "java/lang/String" "coder" "B" (.int (0 : Int32)) := D298 (Or.inr (hw _ (List.mem_of_getElem? (i := 44) rfl))) (ty := .byte) (by decide)
                have F_value_x : Fld Z h298 x "java/lang/String" "value" "[B" .null := D298 (Or.inr (hw _ (List.mem_of_getElem? (i := 46) rfl))) (ty := (.array .byte)) (by decide)
                have K298 : Keep T104.heap h298 [] := (Keep.refl _ []).ext E298
                have hs301 : ∀ sx_ ∈ ([] : List Addr), Safe Z own_EL s.vm T104.heap sx_ := all0
                have R301 := R105.trans (CHr.keep K298 hs301 R105.1)
                have lt_x : x < h298.size := A298.lt
                obtain ⟨T302, h302, k302, X302, e302, E302, A302, st302⟩ := newP X298 hx hZ (hw _ (List.mem_of_getElem? (i := 19) rfl)) e298 (g := (mkF m 361 #[.val (.int p1), .val (.int p2), .val (.int p3), .val (.int p4), .val (.ref mg), .val (.int kk), .val (.int c), .val (.int mu), .val (.int sel), .val (.int ln), .val (.int c1), .val (.int c2), .unset] [(.int (3 : Int32)), (.ref x), (.ref x), (.ref mg)])) rfl (hb hby at_361) rfl (by decide) (cap := 3) (by decide) (by decide) (by decide) (by decide)
                obtain ⟨ca, g302⟩ : ∃ z, z = h298.size := ⟨_, rfl⟩
                rw [← g302] at A302 st302
                have Z_303 := (Nat.le_trans Z_299 K298.1)
                have g_ca : n0 ≤ ca := Nat.le_trans Z_303 (Nat.le_of_eq g302.symm)
                have lt_mg_304 := (Nat.lt_of_lt_of_le lt_mg_300 K298.1)
                have ne_mg_ca : mg ≠ ca := (Nat.ne_of_lt (Nat.lt_of_lt_of_le lt_mg_304 (Nat.le_of_eq g302.symm)))
                have ne_x_ca : x ≠ ca := (Nat.ne_of_lt (Nat.lt_of_lt_of_le lt_x (Nat.le_of_eq g302.symm)))
                have V_ca : Arv Z h302 ca k302 .char (3 : Int32) [(.int (0 : Int32)), (.int (0 : Int32)), (.int (0 : Int32))] (.int (0 : Int32)) := (Arv.new A302 (by decide)).pad (pad_rep [] (.int (0 : Int32)) 3)
                have K302 : Keep h298 h302 [] := (Keep.refl _ []).ext E302
                have hs305 : ∀ sx_ ∈ ([] : List Addr), Safe Z own_EL s.vm h298 sx_ := all0
                have R305 := R301.trans (CHr.keep K302 hs305 R301.1)
                have lt_ca : ca < h302.size := V_ca.lt
                obtain ⟨cl306, Ar306, q306, S306, M306, Hh306, G306⟩ := id V_ca
                obtain ⟨T306, h306, X306, e306, W306, st306⟩ := stC X302 hx hZ e302 Ar306 (j := (0 : Int32)) (inb_of S306 ⟨by decide, by decide⟩) (g := (mkF m 367 #[.val (.int p1), .val (.int p2), .val (.int p3), .val (.int p4), .val (.ref mg), .val (.int kk), .val (.int c), .val (.int mu), .val (.int sel), .val (.int ln), .val (.int c1), .val (.int c2), .unset] [(.int c), (.int (0 : Int32)), (.ref ca), (.ref ca), (.ref x), (.ref x), (.ref mg)])) rfl rfl (hb hby at_367)
                have V_ca_306 : Arv Z h306 ca k302 .char (3 : Int32) [(.int (nar .char c)), (.int (0 : Int32)), (.int (0 : Int32))] (.int (0 : Int32)) := Arv.set Ar306 q306 S306 M306 Hh306 G306 (fits_nar_char _) W306 0 rfl (Nat.le_of_ble_eq_true rfl)
                have K306 : Keep h302 h306 [ca] := Keep.of_wr W306
                have hs307 : ∀ sx_ ∈ ([ca] : List Addr), Safe Z own_EL s.vm h302 sx_ := (allS (Safe.arr hZ.alike Ar306 (by decide)) all0)
                have R307 := R305.trans (CHr.keep K306 hs307 R305.1)
                have N306 := Fr.snoc X306 N104 g_ca
                obtain ⟨cl308, Ar308, q308, S308, M308, Hh308, G308⟩ := id V_ca_306
                obtain ⟨T308, h308, X308, e308, W308, st308⟩ := stC X306 hx hZ e306 Ar308 (j := (1 : Int32)) (inb_of S308 ⟨by decide, by decide⟩) (g := (mkF m 372 #[.val (.int p1), .val (.int p2), .val (.int p3), .val (.int p4), .val (.ref mg), .val (.int kk), .val (.int c), .val (.int mu), .val (.int sel), .val (.int ln), .val (.int c1), .val (.int c2), .unset] [(.int c1), (.int (1 : Int32)), (.ref ca), (.ref ca), (.ref x), (.ref x), (.ref mg)])) rfl rfl (hb hby at_372)
                have V_ca_308 : Arv Z h308 ca k302 .char (3 : Int32) [(.int (nar .char c)), (.int (nar .char c1)), (.int (0 : Int32))] (.int (0 : Int32)) := Arv.set Ar308 q308 S308 M308 Hh308 G308 (fits_nar_char _) W308 1 rfl (Nat.le_of_ble_eq_true rfl)
                have K308 : Keep h306 h308 [ca] := Keep.of_wr W308
                have hs309 : ∀ sx_ ∈ ([ca] : List Addr), Safe Z own_EL s.vm h306 sx_ := (allS (Safe.arr hZ.alike Ar308 (by decide)) all0)
                have R309 := R307.trans (CHr.keep K308 hs309 R307.1)
                have N308 := Fr.snoc X308 N306 g_ca
                obtain ⟨cl310, Ar310, q310, S310, M310, Hh310, G310⟩ := id V_ca_308
                obtain ⟨T310, h310, X310, e310, W310, st310⟩ := stC X308 hx hZ e308 Ar310 (j := (2 : Int32)) (inb_of S310 ⟨by decide, by decide⟩) (g := (mkF m 377 #[.val (.int p1), .val (.int p2), .val (.int p3), .val (.int p4), .val (.ref mg), .val (.int kk), .val (.int c), .val (.int mu), .val (.int sel), .val (.int ln), .val (.int c1), .val (.int c2), .unset] [(.int c2), (.int (2 : Int32)), (.ref ca), (.ref ca), (.ref x), (.ref x), (.ref mg)])) rfl rfl (hb hby at_377)
                have V_ca_310 : Arv Z h310 ca k302 .char (3 : Int32) [(.int (nar .char c)), (.int (nar .char c1)), (.int (nar .char c2))] (.int (0 : Int32)) := Arv.set Ar310 q310 S310 M310 Hh310 G310 (fits_nar_char _) W310 2 rfl (Nat.le_of_ble_eq_true rfl)
                have K310 : Keep h308 h310 [ca] := Keep.of_wr W310
                have hs311 : ∀ sx_ ∈ ([ca] : List Addr), Safe Z own_EL s.vm h308 sx_ := (allS (Safe.arr hZ.alike Ar310 (by decide)) all0)
                have R311 := R309.trans (CHr.keep K310 hs311 R309.1)
                have N310 := Fr.snoc X310 N308 g_ca
                have hp312 : ∀ z ∈ ([nar .char c, nar .char c1, nar .char c2] : List Int32), ¬ z < 0 ∧ ¬ (255 : Int32) < z := by
                  intro z hz
                  simp only [List.mem_cons, List.not_mem_nil, or_false] at hz
                  rcases hz with rfl | rfl | rfl
                  · exact ⟨rc.1, rc.2.1⟩
                  · exact ⟨rc1.1, rc1.2.1⟩
                  · exact ⟨rc2.1, rc2.2.1⟩
                have E_x_313 := ((((A298.keep K302).keep K306).keep K308).keep K310)
                have F_value_x_314 := ((((F_value_x.keep K302 nin0).keep K306 (ninS ne_x_ca nin0)).keep K308 (ninS ne_x_ca nin0)).keep K310 (ninS ne_x_ca nin0))
                have sfx : Safe Z own_EL s.vm h310 x := own_safe_null hZ.alike E_x_313 F_value_x_314 (hw _ (List.mem_of_getElem? (i := 21) rfl))
                have Z_315 := (Nat.le_trans (Nat.le_trans (Nat.le_trans (Nat.le_trans Z_303 K302.1) K306.1) K308.1) K310.1)
                have O_316 := ((((((O_103.keep K104 (allS g_mg all0)).keep K298 all0).keep K302 all0).keep K306 (allS g_ca all0)).keep K308 (allS g_ca all0)).keep K310 (allS g_ca all0))
                have F_coder_x_317 := ((((F_coder_x.keep K302 nin0).keep K306 (ninS ne_x_ca nin0)).keep K308 (ninS ne_x_ca nin0)).keep K310 (ninS ne_x_ca nin0))
                obtain ⟨_, _, ⟨T318, L318, kk318, nn318⟩, -, X318, ⟨Lc318, hQ318, l318, y318, z318⟩, st318⟩ := X310.specialBack hx (y := (⟨"java/lang/String", "<init>", "([C)V"⟩ : MethodName)) rfl hown (mvT hZ (hw _ (List.mem_of_getElem? (i := 23) rfl))) (mvT hZ (hw _ (List.mem_of_getElem? (i := 24) rfl))) (mvT hZ (hw _ (List.mem_of_getElem? (i := 25) rfl))) (by decide) (StrChars.Road.backV (W := 2) hZ hws (kI := 4) (hw _ (List.mem_of_getElem? (i := 21) rfl)) (cs := [nar .char c, nar .char c1, nar .char c2]) (bs := ([nar .char c, nar .char c1, nar .char c2]).map (fun c => c.toInt8.toInt32)) (n := 3) g_x Z_315 E_x_313 F_value_x_314 F_coder_x_317 V_ca_310 (O2.ext O_316.2) P5 (by simp [own_L0, own_L1]) rfl (by decide) (by decide) hp312 rfl (by decide) (by decide)) (g := (mkF m 378 #[.val (.int p1), .val (.int p2), .val (.int p3), .val (.int p4), .val (.ref mg), .val (.int kk), .val (.int c), .val (.int mu), .val (.int sel), .val (.int ln), .val (.int c1), .val (.int c2), .unset] [(.ref ca), (.ref x), (.ref x), (.ref mg)])) rfl (by rw [hml]; rfl) (Steps.refl _) (a := x) (argsL := [(.ref ca)]) (rest := [(.ref x), (.ref mg)]) (lenOf pd___C_V rfl) rfl (by show 2 * 0 + _ ≤ _; exact Nat.le_of_eq rfl) (hb hby at_378) (fun _ _ => ⟨rfl, e310, Nat.le_of_ble_eq_true rfl, Nat.le_of_ble_eq_true rfl⟩)
                dsimp only [Pt.U, Pt.locs, Pt.cells, Pt.slots] at X318 l318 y318 z318 st318 hQ318
                subst l318 y318 z318
                obtain ⟨rfl, Nq318, K318, Eq318, Fc318, t318, kb318, g_t318, le318, nx318, Fv318, V_t318⟩ := hQ318
                have N318 := Fr.app N310 Nq318
                have hs319 : ∀ sx_ ∈ ([x] : List Addr), Safe Z own_EL s.vm h310 sx_ := (allS sfx all0)
                have R319 := R311.trans (CHr.keep K318 hs319 R311.1)
                have V_t318_ : Arv Z T318.heap t318 kb318 .byte (Int32.ofNat ([nar .char c, nar .char c1, nar .char c2]).length) ((([nar .char c, nar .char c1, nar .char c2]).map (fun c => c.toInt8.toInt32)).map Value.int) (.int (0 : Int32)) := by
                  have e : ([nar .char c, nar .char c1, nar .char c2]).length = 3 := by simp [own_L0, own_L1]
                  rw [e]; exact V_t318
                have O_320 := (O_316.keep K318 (allS g_x all0))
                obtain ⟨r, hr1, rt⟩ := rmIA l Z a0 hw [] mg x t318 kb318 [nar .char c, nar .char c1, nar .char c2] G1 T318.heap n0 Eq318 Fv318 Fc318 V_t318_ hp312 (by simp [own_L0, own_L1, own_L2, own_L3, own_L4]) O2 P5 O_320
                obtain rfl : r = 0 := by
                  rcases hr1 with ⟨-, h⟩ | ⟨h, -⟩
                  · exact absurd h (own_short (Nat.le_of_ble_eq_true rfl))
                  · exact h
                have E_mg_321 := ((((((Em104.keep K298).keep K302).keep K306).keep K308).keep K310).keep K318)
                have HK_323 := (Nat.le_trans (Nat.le_trans (Nat.le_trans (Nat.le_trans (Nat.le_trans (Nat.le_trans (Nat.le_trans (Nat.le_trans hk0 K101.1) K104.1) K298.1) K302.1) K306.1) K308.1) K310.1) K318.1)
                have go324 : ∀ tg_, Steps p.tables e below (T318.setTop (mkF m 381 #[.val (.int p1), .val (.int p2), .val (.int p3), .val (.int p4), .val (.ref mg), .val (.int kk), .val (.int c), .val (.int mu), .val (.int sel), .val (.int ln), .val (.int c1), .val (.int c2), .unset] [(.ref x), (.ref mg)])) tg_ → Steps p.tables e below (s₁.setTop (entryFrame m #[(.int p1), (.int p2), (.int p3), (.int p4)] maxLocals)) tg_ := fun tg_ k => go241 tg_ (by
                    show Steps p.tables e below (T104.setTop (mkF m 262 #[.val (.int p1), .val (.int p2), .val (.int p3), .val (.int p4), .val (.ref mg), .val (.int kk), .val (.int c), .val (.int mu), .val (.int sel), .val (.int ln), .val (.int c1), .val (.int c2), .unset] [(.int ln)])) _
                    refine XS.ifYes X104.here hx rfl (pc0 := 262) (pc' := 289) rfl (hb hby at_262) rfl ((if0 _ _).trans (feq (hl0 : ¬ (ln = (0 : Int32)))).2) (by decide) (by decide) ?_
                    show Steps p.tables e below (T104.setTop (mkF m 289 #[.val (.int p1), .val (.int p2), .val (.int p3), .val (.int p4), .val (.ref mg), .val (.int kk), .val (.int c), .val (.int mu), .val (.int sel), .val (.int ln), .val (.int c1), .val (.int c2), .unset] [])) _
                    refine XS.iload X104.here hx rfl (hb hby at_289) rfl ?_
                    show Steps p.tables e below (T104.setTop (mkF m 291 #[.val (.int p1), .val (.int p2), .val (.int p3), .val (.int p4), .val (.ref mg), .val (.int kk), .val (.int c), .val (.int mu), .val (.int sel), .val (.int ln), .val (.int c1), .val (.int c2), .unset] [(.int ln)])) _
                    refine XS.iconst X104.here hx rfl (hb hby at_291) ?_
                    show Steps p.tables e below (T104.setTop (mkF m 292 #[.val (.int p1), .val (.int p2), .val (.int p3), .val (.int p4), .val (.ref mg), .val (.int kk), .val (.int c), .val (.int mu), .val (.int sel), .val (.int ln), .val (.int c1), .val (.int c2), .unset] [(.int (1 : Int32)), (.int ln)])) _
                    refine XS.icmpYes X104.here hx rfl (pc0 := 292) (pc' := 314) rfl (hb hby at_292) rfl (feq (hl1 : ¬ (ln = (1 : Int32)))).2 (by decide) (by decide) ?_
                    show Steps p.tables e below (T104.setTop (mkF m 314 #[.val (.int p1), .val (.int p2), .val (.int p3), .val (.int p4), .val (.ref mg), .val (.int kk), .val (.int c), .val (.int mu), .val (.int sel), .val (.int ln), .val (.int c1), .val (.int c2), .unset] [])) _
                    refine XS.iload X104.here hx rfl (hb hby at_314) rfl ?_
                    show Steps p.tables e below (T104.setTop (mkF m 316 #[.val (.int p1), .val (.int p2), .val (.int p3), .val (.int p4), .val (.ref mg), .val (.int kk), .val (.int c), .val (.int mu), .val (.int sel), .val (.int ln), .val (.int c1), .val (.int c2), .unset] [(.int ln)])) _
                    refine XS.iconst X104.here hx rfl (hb hby at_316) ?_
                    show Steps p.tables e below (T104.setTop (mkF m 317 #[.val (.int p1), .val (.int p2), .val (.int p3), .val (.int p4), .val (.ref mg), .val (.int kk), .val (.int c), .val (.int mu), .val (.int sel), .val (.int ln), .val (.int c1), .val (.int c2), .unset] [(.int (2 : Int32)), (.int ln)])) _
                    refine XS.icmpYes X104.here hx rfl (pc0 := 317) (pc' := 354) rfl (hb hby at_317) rfl (feq (hl : ¬ (ln = (2 : Int32)))).2 (by decide) (by decide) ?_
                    show Steps p.tables e below (T104.setTop (mkF m 354 #[.val (.int p1), .val (.int p2), .val (.int p3), .val (.int p4), .val (.ref mg), .val (.int kk), .val (.int c), .val (.int mu), .val (.int sel), .val (.int ln), .val (.int c1), .val (.int c2), .unset] [])) _
                    refine XS.aload X104.here hx rfl (hb hby at_354) rfl rfl ?_
                    show Steps p.tables e below (T104.setTop (mkF m 356 #[.val (.int p1), .val (.int p2), .val (.int p3), .val (.int p4), .val (.ref mg), .val (.int kk), .val (.int c), .val (.int mu), .val (.int sel), .val (.int ln), .val (.int c1), .val (.int c2), .unset] [(.ref mg)])) _
                    refine st298 _ ?_
                    show Steps p.tables e below (T298.setTop (mkF m 359 #[.val (.int p1), .val (.int p2), .val (.int p3), .val (.int p4), .val (.ref mg), .val (.int kk), .val (.int c), .val (.int mu), .val (.int sel), .val (.int ln), .val (.int c1), .val (.int c2), .unset] [(.ref x), (.ref mg)])) _
                    refine XS.dup X298.here hx rfl (hb hby at_359) rfl rfl ?_
                    show Steps p.tables e below (T298.setTop (mkF m 360 #[.val (.int p1), .val (.int p2), .val (.int p3), .val (.int p4), .val (.ref mg), .val (.int kk), .val (.int c), .val (.int mu), .val (.int sel), .val (.int ln), .val (.int c1), .val (.int c2), .unset] [(.ref x), (.ref x), (.ref mg)])) _
                    refine XS.iconst X298.here hx rfl (hb hby at_360) ?_
                    show Steps p.tables e below (T298.setTop (mkF m 361 #[.val (.int p1), .val (.int p2), .val (.int p3), .val (.int p4), .val (.ref mg), .val (.int kk), .val (.int c), .val (.int mu), .val (.int sel), .val (.int ln), .val (.int c1), .val (.int c2), .unset] [(.int (3 : Int32)), (.ref x), (.ref x), (.ref mg)])) _
                    refine st302 _ ?_
                    show Steps p.tables e below (T302.setTop (mkF m 363 #[.val (.int p1), .val (.int p2), .val (.int p3), .val (.int p4), .val (.ref mg), .val (.int kk), .val (.int c), .val (.int mu), .val (.int sel), .val (.int ln), .val (.int c1), .val (.int c2), .unset] [(.ref ca), (.ref x), (.ref x), (.ref mg)])) _
                    refine XS.dup X302.here hx rfl (hb hby at_363) rfl rfl ?_
                    show Steps p.tables e below (T302.setTop (mkF m 364 #[.val (.int p1), .val (.int p2), .val (.int p3), .val (.int p4), .val (.ref mg), .val (.int kk), .val (.int c), .val (.int mu), .val (.int sel), .val (.int ln), .val (.int c1), .val (.int c2), .unset] [(.ref ca), (.ref ca), (.ref x), (.ref x), (.ref mg)])) _
                    refine XS.iconst X302.here hx rfl (hb hby at_364) ?_
                    show Steps p.tables e below (T302.setTop (mkF m 365 #[.val (.int p1), .val (.int p2), .val (.int p3), .val (.int p4), .val (.ref mg), .val (.int kk), .val (.int c), .val (.int mu), .val (.int sel), .val (.int ln), .val (.int c1), .val (.int c2), .unset] [(.int (0 : Int32)), (.ref ca), (.ref ca), (.ref x), (.ref x), (.ref mg)])) _
                    refine XS.iload X302.here hx rfl (hb hby at_365) rfl ?_
                    show Steps p.tables e below (T302.setTop (mkF m 367 #[.val (.int p1), .val (.int p2), .val (.int p3), .val (.int p4), .val (.ref mg), .val (.int kk), .val (.int c), .val (.int mu), .val (.int sel), .val (.int ln), .val (.int c1), .val (.int c2), .unset] [(.int c), (.int (0 : Int32)), (.ref ca), (.ref ca), (.ref x), (.ref x), (.ref mg)])) _
                    refine st306 _ ?_
                    show Steps p.tables e below (T306.setTop (mkF m 368 #[.val (.int p1), .val (.int p2), .val (.int p3), .val (.int p4), .val (.ref mg), .val (.int kk), .val (.int c), .val (.int mu), .val (.int sel), .val (.int ln), .val (.int c1), .val (.int c2), .unset] [(.ref ca), (.ref x), (.ref x), (.ref mg)])) _
                    refine XS.dup X306.here hx rfl (hb hby at_368) rfl rfl ?_
                    show Steps p.tables e below (T306.setTop (mkF m 369 #[.val (.int p1), .val (.int p2), .val (.int p3), .val (.int p4), .val (.ref mg), .val (.int kk), .val (.int c), .val (.int mu), .val (.int sel), .val (.int ln), .val (.int c1), .val (.int c2), .unset] [(.ref ca), (.ref ca), (.ref x), (.ref x), (.ref mg)])) _
                    refine XS.iconst X306.here hx rfl (hb hby at_369) ?_
                    show Steps p.tables e below (T306.setTop (mkF m 370 #[.val (.int p1), .val (.int p2), .val (.int p3), .val (.int p4), .val (.ref mg), .val (.int kk), .val (.int c), .val (.int mu), .val (.int sel), .val (.int ln), .val (.int c1), .val (.int c2), .unset] [(.int (1 : Int32)), (.ref ca), (.ref ca), (.ref x), (.ref x), (.ref mg)])) _
                    refine XS.iload X306.here hx rfl (hb hby at_370) rfl ?_
                    show Steps p.tables e below (T306.setTop (mkF m 372 #[.val (.int p1), .val (.int p2), .val (.int p3), .val (.int p4), .val (.ref mg), .val (.int kk), .val (.int c), .val (.int mu), .val (.int sel), .val (.int ln), .val (.int c1), .val (.int c2), .unset] [(.int c1), (.int (1 : Int32)), (.ref ca), (.ref ca), (.ref x), (.ref x), (.ref mg)])) _
                    refine st308 _ ?_
                    show Steps p.tables e below (T308.setTop (mkF m 373 #[.val (.int p1), .val (.int p2), .val (.int p3), .val (.int p4), .val (.ref mg), .val (.int kk), .val (.int c), .val (.int mu), .val (.int sel), .val (.int ln), .val (.int c1), .val (.int c2), .unset] [(.ref ca), (.ref x), (.ref x), (.ref mg)])) _
                    refine XS.dup X308.here hx rfl (hb hby at_373) rfl rfl ?_
                    show Steps p.tables e below (T308.setTop (mkF m 374 #[.val (.int p1), .val (.int p2), .val (.int p3), .val (.int p4), .val (.ref mg), .val (.int kk), .val (.int c), .val (.int mu), .val (.int sel), .val (.int ln), .val (.int c1), .val (.int c2), .unset] [(.ref ca), (.ref ca), (.ref x), (.ref x), (.ref mg)])) _
                    refine XS.iconst X308.here hx rfl (hb hby at_374) ?_
                    show Steps p.tables e below (T308.setTop (mkF m 375 #[.val (.int p1), .val (.int p2), .val (.int p3), .val (.int p4), .val (.ref mg), .val (.int kk), .val (.int c), .val (.int mu), .val (.int sel), .val (.int ln), .val (.int c1), .val (.int c2), .unset] [(.int (2 : Int32)), (.ref ca), (.ref ca), (.ref x), (.ref x), (.ref mg)])) _
                    refine XS.iload X308.here hx rfl (hb hby at_375) rfl ?_
                    show Steps p.tables e below (T308.setTop (mkF m 377 #[.val (.int p1), .val (.int p2), .val (.int p3), .val (.int p4), .val (.ref mg), .val (.int kk), .val (.int c), .val (.int mu), .val (.int sel), .val (.int ln), .val (.int c1), .val (.int c2), .unset] [(.int c2), (.int (2 : Int32)), (.ref ca), (.ref ca), (.ref x), (.ref x), (.ref mg)])) _
                    refine st310 _ ?_
                    show Steps p.tables e below (T310.setTop (mkF m 378 #[.val (.int p1), .val (.int p2), .val (.int p3), .val (.int p4), .val (.ref mg), .val (.int kk), .val (.int c), .val (.int mu), .val (.int sel), .val (.int ln), .val (.int c1), .val (.int c2), .unset] [(.ref ca), (.ref x), (.ref x), (.ref mg)])) _
                    refine st318.trans ?_
                    exact k)
                obtain ⟨cq322, kq322, q322a, q322b, q322c⟩ := isOf hZ rfl E_mg_321
                obtain ⟨_, _, ⟨T322, L322, kk322, nn322⟩, -, Y322, hT322, gr322, ⟨Lc322, hQ322, l322, y322, z322, C322⟩, st322⟩ := X318.virtualBackS hx (y := (⟨"com/example/tramway/tramway/poa/TramwayPoaManager", "_is_a", "(Ljava/lang/String;)Z"⟩ : MethodName)) (z := (⟨"com/example/tramway/tramway/poa/TramwayPoaManager", "_is_a", "(Ljava/lang/String;)Z"⟩ : MethodName)) hown (mvT hZ (hw _ (List.mem_of_getElem? (i := 47) rfl))) (mvT hZ (hw _ (List.mem_of_getElem? (i := 48) rfl))) (notFace_of_selects (args := #[]) (mvT hZ (hw _ (List.mem_of_getElem? (i := 50) rfl)))) (mvT hZ (hw _ (List.mem_of_getElem? (i := 50) rfl))) (mvT hZ (hw _ (List.mem_of_getElem? (i := 49) rfl))) (by decide) (backOfSH (W := 0) (rt) hZ (hw _ (List.mem_of_getElem? (i := 51) rfl)) (hw _ (List.mem_of_getElem? (i := 2) rfl)) (by decide) (by decide) hEL R319.1) q322a q322c (g := (mkF m 381 #[.val (.int p1), .val (.int p2), .val (.int p3), .val (.int p4), .val (.ref mg), .val (.int kk), .val (.int c), .val (.int mu), .val (.int sel), .val (.int ln), .val (.int c1), .val (.int c2), .unset] [(.ref x), (.ref mg)])) rfl (by rw [hml]; rfl) (Steps.refl _) (argsL := [(.ref x)]) (rest := []) (lenOf pd__Ljava_lang_String__Z rfl) rfl (by show 2 * 0 + _ ≤ _; exact Nat.le_of_eq rfl) (hb hby at_381) (fun _ _ => ⟨rfl, rfl, Nat.le_of_ble_eq_true rfl, Nat.le_of_ble_eq_true rfl⟩)
                dsimp only [Pt.U, Pt.locs, Pt.cells, Pt.slots] at Y322 hT322 gr322 l322 y322 z322 C322 st322 hQ322
                subst l322 y322 z322
                obtain ⟨X322, hS322, hZ, hown⟩ := rebS hS0 HK_323 Y322 hT322 gr322 hZ hown
                have hk322 := Nat.le_refl T322.heap.size
                obtain ⟨rfl, Nq322, K322⟩ := hQ322
                have N322 := Fr.app N318 Nq322
                have R325 := R319.trans C322
                obtain ⟨fs, hr, hrun, hended, hRE⟩ := X322.leaveW hS322 hk322 (v := some (.int (1 : Int32))) (fun h => by rw [Bd.returns] at h; cases h)
                refine ⟨_, _, go324 _ ?_, hrun, hended, _, _, rfl, ?_, ?_, hRE.1, hRE.2.1, hRE.2.2.1, hRE.2.2.2.mono (by decide) (by decide)⟩
                · show Steps p.tables e below (T318.setTop (mkF m 381 #[.val (.int p1), .val (.int p2), .val (.int p3), .val (.int p4), .val (.ref mg), .val (.int kk), .val (.int c), .val (.int mu), .val (.int sel), .val (.int ln), .val (.int c1), .val (.int c2), .unset] [(.ref x), (.ref mg)])) _
                  refine st322.trans ?_
                  show Steps p.tables e below (T322.setTop (mkF m 384 #[.val (.int p1), .val (.int p2), .val (.int p3), .val (.int p4), .val (.ref mg), .val (.int kk), .val (.int c), .val (.int mu), .val (.int sel), .val (.int ln), .val (.int c1), .val (.int c2), .unset] [(.int (0 : Int32))])) _
                  refine XS.ifNo X322.here hx rfl (hb hby at_384) rfl ((if0 _ _).trans (teq (rfl : (0 : Int32) = (0 : Int32))).2) ?_
                  show Steps p.tables e below (T322.setTop (mkF m 387 #[.val (.int p1), .val (.int p2), .val (.int p3), .val (.int p4), .val (.ref mg), .val (.int kk), .val (.int c), .val (.int mu), .val (.int sel), .val (.int ln), .val (.int c1), .val (.int c2), .unset] [])) _
                  refine XS.iconst X322.here hx rfl (hb hby at_387) ?_
                  show Steps p.tables e below (T322.setTop (mkF m 388 #[.val (.int p1), .val (.int p2), .val (.int p3), .val (.int p4), .val (.ref mg), .val (.int kk), .val (.int c), .val (.int mu), .val (.int sel), .val (.int ln), .val (.int c1), .val (.int c2), .unset] [(.int (1 : Int32))])) _
                  refine XS.goto X322.here hx rfl (pc0 := 388) (pc' := 392) rfl (hb hby at_388) (by decide) (by decide) ?_
                  show Steps p.tables e below (T322.setTop (mkF m 392 #[.val (.int p1), .val (.int p2), .val (.int p3), .val (.int p4), .val (.ref mg), .val (.int kk), .val (.int c), .val (.int mu), .val (.int sel), .val (.int ln), .val (.int c1), .val (.int c2), .unset] [(.int (1 : Int32))])) _
                  exact retN X322 hx (t := .boolean) Bd.returns (by simp) (hb hby at_392) hr
                · show Q0 h0 n0 _ T322.heap _
                  exact ⟨rfl, N322⟩
                · show CHr Z own_EL s.vm s.heap T322.vm T322.heap
                  rw [hh]
                  exact R325.trans (CHv.at X322 hZ hEL R325.1)
        · by_cases ek4 : kk = 4
          · have ek := ek4
            have go326 : ∀ tg_, Steps p.tables e below (T104.setTop (mkF m 403 #[.val (.int p1), .val (.int p2), .val (.int p3), .val (.int p4), .val (.ref mg), .val (.int kk), .val (.int c), .val (.int mu), .val (.int sel), .unset, .unset, .unset, .unset] [(.int (sel % (3 : Int32)))])) tg_ → Steps p.tables e below (s₁.setTop (entryFrame m #[(.int p1), (.int p2), (.int p3), (.int p4)] maxLocals)) tg_ := fun tg_ k => go111 tg_ (by
                show Steps p.tables e below (T104.setTop (mkF m 46 #[.val (.int p1), .val (.int p2), .val (.int p3), .val (.int p4), .val (.ref mg), .val (.int kk), .val (.int c), .val (.int mu), .val (.int sel), .unset, .unset, .unset, .unset] [(.int kk)])) _
                refine XS.ifYes X104.here hx rfl (pc0 := 46) (pc' := 124) rfl (hb hby at_46) rfl ((if0 _ _).trans (feq (ek0 : ¬ (kk = (0 : Int32)))).2) (by decide) (by decide) ?_
                show Steps p.tables e below (T104.setTop (mkF m 124 #[.val (.int p1), .val (.int p2), .val (.int p3), .val (.int p4), .val (.ref mg), .val (.int kk), .val (.int c), .val (.int mu), .val (.int sel), .unset, .unset, .unset, .unset] [])) _
                refine XS.iload X104.here hx rfl (hb hby at_124) rfl ?_
                show Steps p.tables e below (T104.setTop (mkF m 126 #[.val (.int p1), .val (.int p2), .val (.int p3), .val (.int p4), .val (.ref mg), .val (.int kk), .val (.int c), .val (.int mu), .val (.int sel), .unset, .unset, .unset, .unset] [(.int kk)])) _
                refine XS.iconst X104.here hx rfl (hb hby at_126) ?_
                show Steps p.tables e below (T104.setTop (mkF m 127 #[.val (.int p1), .val (.int p2), .val (.int p3), .val (.int p4), .val (.ref mg), .val (.int kk), .val (.int c), .val (.int mu), .val (.int sel), .unset, .unset, .unset, .unset] [(.int (1 : Int32)), (.int kk)])) _
                refine XS.icmpYes X104.here hx rfl (pc0 := 127) (pc' := 205) rfl (hb hby at_127) rfl (feq (ek1 : ¬ (kk = (1 : Int32)))).2 (by decide) (by decide) ?_
                show Steps p.tables e below (T104.setTop (mkF m 205 #[.val (.int p1), .val (.int p2), .val (.int p3), .val (.int p4), .val (.ref mg), .val (.int kk), .val (.int c), .val (.int mu), .val (.int sel), .unset, .unset, .unset, .unset] [])) _
                refine XS.iload X104.here hx rfl (hb hby at_205) rfl ?_
                show Steps p.tables e below (T104.setTop (mkF m 207 #[.val (.int p1), .val (.int p2), .val (.int p3), .val (.int p4), .val (.ref mg), .val (.int kk), .val (.int c), .val (.int mu), .val (.int sel), .unset, .unset, .unset, .unset] [(.int kk)])) _
                refine XS.iconst X104.here hx rfl (hb hby at_207) ?_
                show Steps p.tables e below (T104.setTop (mkF m 208 #[.val (.int p1), .val (.int p2), .val (.int p3), .val (.int p4), .val (.ref mg), .val (.int kk), .val (.int c), .val (.int mu), .val (.int sel), .unset, .unset, .unset, .unset] [(.int (2 : Int32)), (.int kk)])) _
                refine XS.icmpYes X104.here hx rfl (pc0 := 208) (pc' := 226) rfl (hb hby at_208) rfl (feq (ek2 : ¬ (kk = (2 : Int32)))).2 (by decide) (by decide) ?_
                show Steps p.tables e below (T104.setTop (mkF m 226 #[.val (.int p1), .val (.int p2), .val (.int p3), .val (.int p4), .val (.ref mg), .val (.int kk), .val (.int c), .val (.int mu), .val (.int sel), .unset, .unset, .unset, .unset] [])) _
                refine XS.iload X104.here hx rfl (hb hby at_226) rfl ?_
                show Steps p.tables e below (T104.setTop (mkF m 228 #[.val (.int p1), .val (.int p2), .val (.int p3), .val (.int p4), .val (.ref mg), .val (.int kk), .val (.int c), .val (.int mu), .val (.int sel), .unset, .unset, .unset, .unset] [(.int kk)])) _
                refine XS.iconst X104.here hx rfl (hb hby at_228) ?_
                show Steps p.tables e below (T104.setTop (mkF m 229 #[.val (.int p1), .val (.int p2), .val (.int p3), .val (.int p4), .val (.ref mg), .val (.int kk), .val (.int c), .val (.int mu), .val (.int sel), .unset, .unset, .unset, .unset] [(.int (3 : Int32)), (.int kk)])) _
                refine XS.icmpYes X104.here hx rfl (pc0 := 229) (pc' := 393) rfl (hb hby at_229) rfl (feq (ek3 : ¬ (kk = (3 : Int32)))).2 (by decide) (by decide) ?_
                show Steps p.tables e below (T104.setTop (mkF m 393 #[.val (.int p1), .val (.int p2), .val (.int p3), .val (.int p4), .val (.ref mg), .val (.int kk), .val (.int c), .val (.int mu), .val (.int sel), .unset, .unset, .unset, .unset] [])) _
                refine XS.iload X104.here hx rfl (hb hby at_393) rfl ?_
                show Steps p.tables e below (T104.setTop (mkF m 395 #[.val (.int p1), .val (.int p2), .val (.int p3), .val (.int p4), .val (.ref mg), .val (.int kk), .val (.int c), .val (.int mu), .val (.int sel), .unset, .unset, .unset, .unset] [(.int kk)])) _
                refine XS.iconst X104.here hx rfl (hb hby at_395) ?_
                show Steps p.tables e below (T104.setTop (mkF m 396 #[.val (.int p1), .val (.int p2), .val (.int p3), .val (.int p4), .val (.ref mg), .val (.int kk), .val (.int c), .val (.int mu), .val (.int sel), .unset, .unset, .unset, .unset] [(.int (4 : Int32)), (.int kk)])) _
                refine XS.icmpNo X104.here hx rfl (hb hby at_396) rfl (teq (ek : kk = (4 : Int32))).2 ?_
                show Steps p.tables e below (T104.setTop (mkF m 399 #[.val (.int p1), .val (.int p2), .val (.int p3), .val (.int p4), .val (.ref mg), .val (.int kk), .val (.int c), .val (.int mu), .val (.int sel), .unset, .unset, .unset, .unset] [])) _
                refine XS.iload X104.here hx rfl (hb hby at_399) rfl ?_
                show Steps p.tables e below (T104.setTop (mkF m 401 #[.val (.int p1), .val (.int p2), .val (.int p3), .val (.int p4), .val (.ref mg), .val (.int kk), .val (.int c), .val (.int mu), .val (.int sel), .unset, .unset, .unset, .unset] [(.int sel)])) _
                refine XS.iconst X104.here hx rfl (hb hby at_401) ?_
                show Steps p.tables e below (T104.setTop (mkF m 402 #[.val (.int p1), .val (.int p2), .val (.int p3), .val (.int p4), .val (.ref mg), .val (.int kk), .val (.int c), .val (.int mu), .val (.int sel), .unset, .unset, .unset, .unset] [(.int (3 : Int32)), (.int sel)])) _
                refine Jvm.RoadKit.iremM X104 hx rfl (hb hby at_402) rfl (by decide) ?_
                show Steps p.tables e below (T104.setTop (mkF m 403 #[.val (.int p1), .val (.int p2), .val (.int p3), .val (.int p4), .val (.ref mg), .val (.int kk), .val (.int c), .val (.int mu), .val (.int sel), .unset, .unset, .unset, .unset] [(.int (sel % (3 : Int32)))])) _
                exact k)
            obtain ⟨v9, rv9, e_v9⟩ : ∃ z : Int32, (True) ∧ (sel % (3 : Int32)) = z := ⟨_, trivial, rfl⟩
            rw [e_v9] at go326
            have go327 : ∀ tg_, Steps p.tables e below (T104.setTop (mkF m 407 #[.val (.int p1), .val (.int p2), .val (.int p3), .val (.int p4), .val (.ref mg), .val (.int kk), .val (.int c), .val (.int mu), .val (.int sel), .val (.int v9), .unset, .unset, .unset] [(.int v9)])) tg_ → Steps p.tables e below (s₁.setTop (entryFrame m #[(.int p1), (.int p2), (.int p3), (.int p4)] maxLocals)) tg_ := fun tg_ k => go326 tg_ (by
                show Steps p.tables e below (T104.setTop (mkF m 403 #[.val (.int p1), .val (.int p2), .val (.int p3), .val (.int p4), .val (.ref mg), .val (.int kk), .val (.int c), .val (.int mu), .val (.int sel), .unset, .unset, .unset, .unset] [(.int v9)])) _
                refine XS.istore X104.here hx rfl (hb hby at_403) rfl (l' := #[.val (.int p1), .val (.int p2), .val (.int p3), .val (.int p4), .val (.ref mg), .val (.int kk), .val (.int c), .val (.int mu), .val (.int sel), .val (.int v9), .unset, .unset, .unset]) rfl ?_
                show Steps p.tables e below (T104.setTop (mkF m 405 #[.val (.int p1), .val (.int p2), .val (.int p3), .val (.int p4), .val (.ref mg), .val (.int kk), .val (.int c), .val (.int mu), .val (.int sel), .val (.int v9), .unset, .unset, .unset] [])) _
                refine XS.iload X104.here hx rfl (hb hby at_405) rfl ?_
                exact k)
            by_cases hv0 : v9 = 0
            · have go329 : ∀ tg_, Steps p.tables e below (T104.setTop (mkF m 412 #[.val (.int p1), .val (.int p2), .val (.int p3), .val (.int p4), .val (.ref mg), .val (.int kk), .val (.int c), .val (.int mu), .val (.int sel), .val (.int v9), .unset, .unset, .unset] [(.ref mg)])) tg_ → Steps p.tables e below (s₁.setTop (entryFrame m #[(.int p1), (.int p2), (.int p3), (.int p4)] maxLocals)) tg_ := fun tg_ k => go327 tg_ (by
                  show Steps p.tables e below (T104.setTop (mkF m 407 #[.val (.int p1), .val (.int p2), .val (.int p3), .val (.int p4), .val (.ref mg), .val (.int kk), .val (.int c), .val (.int mu), .val (.int sel), .val (.int v9), .unset, .unset, .unset] [(.int v9)])) _
                  refine XS.ifNo X104.here hx rfl (hb hby at_407) rfl ((if0 _ _).trans (teq (hv0 : v9 = (0 : Int32))).2) ?_
                  show Steps p.tables e below (T104.setTop (mkF m 410 #[.val (.int p1), .val (.int p2), .val (.int p3), .val (.int p4), .val (.ref mg), .val (.int kk), .val (.int c), .val (.int mu), .val (.int sel), .val (.int v9), .unset, .unset, .unset] [])) _
                  refine XS.aload X104.here hx rfl (hb hby at_410) rfl rfl ?_
                  exact k)
              have HK_330 := (Nat.le_trans (Nat.le_trans hk0 K101.1) K104.1)
              obtain ⟨x, T328, h328, kq328, t_x, kb_x, X328, e328, E328, hS328, hk328, hZ, hown, E_x, F_coder_x, F_value_x, V_t_x, lt_x, lt_t_x, C328, Li328, sn328, st328⟩ := ldcCH X104 hx hZ hown (hw _ (List.mem_of_getElem? (i := 69) rfl)) hsA rfl hS0 HK_330 hEL (by decide) R105.1 (text := "IDL:omg.org/PortableServer/POA:2.3") (vs := ((own_L2.map (fun c => c.toInt8.toInt32)).map Value.int)) (z := (34 : Int32)) own_txt_2 (by decide) rfl (g := (mkF m 412 #[.val (.int p1), .val (.int p2), .val (.int p3), .val (.int p4), .val (.ref mg), .val (.int kk), .val (.int c), .val (.int mu), .val (.int sel), .val (.int v9), .unset, .unset, .unset] [(.ref mg)])) rfl (hb hby at_412) (n := 136) (by decide) (by decide) (by decide) (by decide)
              have K328 : Keep T104.heap h328 [] := (Keep.refl _ []).ext E328
              have R331 := R105.trans C328
              have O_332 := ((O_103.keep K104 (allS g_mg all0)).keep K328 all0)
              obtain ⟨r, hr1, rt⟩ := rmIA l Z a0 hw [] mg x t_x kb_x own_L2 G1 h328 n0 E_x F_value_x F_coder_x V_t_x own_lr2 (by decide) O2 P5 O_332
              obtain rfl : r = 0 := by
                rcases hr1 with ⟨-, h⟩ | ⟨h, -⟩
                · exact absurd h (by decide)
                · exact h
              have E_mg_333 := (Em104.keep K328)
              have go335 : ∀ tg_, Steps p.tables e below (T328.setTop (mkF m 414 #[.val (.int p1), .val (.int p2), .val (.int p3), .val (.int p4), .val (.ref mg), .val (.int kk), .val (.int c), .val (.int mu), .val (.int sel), .val (.int v9), .unset, .unset, .unset] [(.ref x), (.ref mg)])) tg_ → Steps p.tables e below (s₁.setTop (entryFrame m #[(.int p1), (.int p2), (.int p3), (.int p4)] maxLocals)) tg_ := fun tg_ k => go329 tg_ (by
                  show Steps p.tables e below (T104.setTop (mkF m 412 #[.val (.int p1), .val (.int p2), .val (.int p3), .val (.int p4), .val (.ref mg), .val (.int kk), .val (.int c), .val (.int mu), .val (.int sel), .val (.int v9), .unset, .unset, .unset] [(.ref mg)])) _
                  refine st328 _ ?_
                  exact k)
              obtain ⟨cq334, kq334, q334a, q334b, q334c⟩ := isOf hZ e328 E_mg_333
              obtain ⟨_, _, ⟨T334, L334, kk334, nn334⟩, -, Y334, hT334, gr334, ⟨Lc334, hQ334, l334, y334, z334, C334⟩, st334⟩ := X328.virtualBackS hx (y := (⟨"com/example/tramway/tramway/poa/TramwayPoaManager", "_is_a", "(Ljava/lang/String;)Z"⟩ : MethodName)) (z := (⟨"com/example/tramway/tramway/poa/TramwayPoaManager", "_is_a", "(Ljava/lang/String;)Z"⟩ : MethodName)) hown (mvT hZ (hw _ (List.mem_of_getElem? (i := 47) rfl))) (mvT hZ (hw _ (List.mem_of_getElem? (i := 48) rfl))) (notFace_of_selects (args := #[]) (mvT hZ (hw _ (List.mem_of_getElem? (i := 50) rfl)))) (mvT hZ (hw _ (List.mem_of_getElem? (i := 50) rfl))) (mvT hZ (hw _ (List.mem_of_getElem? (i := 49) rfl))) (by decide) (backOfSH (W := 0) (rt) hZ (hw _ (List.mem_of_getElem? (i := 51) rfl)) (hw _ (List.mem_of_getElem? (i := 2) rfl)) (by decide) (by decide) hEL R331.1) q334a q334c (g := (mkF m 414 #[.val (.int p1), .val (.int p2), .val (.int p3), .val (.int p4), .val (.ref mg), .val (.int kk), .val (.int c), .val (.int mu), .val (.int sel), .val (.int v9), .unset, .unset, .unset] [(.ref x), (.ref mg)])) rfl (by rw [hml]; rfl) (Steps.refl _) (argsL := [(.ref x)]) (rest := []) (lenOf pd__Ljava_lang_String__Z rfl) rfl (by show 2 * 0 + _ ≤ _; exact Nat.le_of_eq rfl) (hb hby at_414) (fun _ _ => ⟨rfl, e328, Nat.le_of_ble_eq_true rfl, Nat.le_of_ble_eq_true rfl⟩)
              dsimp only [Pt.U, Pt.locs, Pt.cells, Pt.slots] at Y334 hT334 gr334 l334 y334 z334 C334 st334 hQ334
              subst l334 y334 z334
              obtain ⟨X334, hS334, hZ, hown⟩ := rebS hS328 (by rw [e328]; exact hk328) Y334 hT334 gr334 hZ hown
              have hk334 := Nat.le_refl T334.heap.size
              obtain ⟨rfl, Nq334, K334⟩ := hQ334
              have N334 := Fr.app N104 Nq334
              have R336 := R331.trans C334
              obtain ⟨fs, hr, hrun, hended, hRE⟩ := X334.leaveW hS334 hk334 (v := some (.int (1 : Int32))) (fun h => by rw [Bd.returns] at h; cases h)
              refine ⟨_, _, go335 _ ?_, hrun, hended, _, _, rfl, ?_, ?_, hRE.1, hRE.2.1, hRE.2.2.1, hRE.2.2.2.mono (by decide) (by decide)⟩
              · show Steps p.tables e below (T328.setTop (mkF m 414 #[.val (.int p1), .val (.int p2), .val (.int p3), .val (.int p4), .val (.ref mg), .val (.int kk), .val (.int c), .val (.int mu), .val (.int sel), .val (.int v9), .unset, .unset, .unset] [(.ref x), (.ref mg)])) _
                refine st334.trans ?_
                show Steps p.tables e below (T334.setTop (mkF m 417 #[.val (.int p1), .val (.int p2), .val (.int p3), .val (.int p4), .val (.ref mg), .val (.int kk), .val (.int c), .val (.int mu), .val (.int sel), .val (.int v9), .unset, .unset, .unset] [(.int (0 : Int32))])) _
                refine XS.ifNo X334.here hx rfl (hb hby at_417) rfl ((if0 _ _).trans (teq (rfl : (0 : Int32) = (0 : Int32))).2) ?_
                show Steps p.tables e below (T334.setTop (mkF m 420 #[.val (.int p1), .val (.int p2), .val (.int p3), .val (.int p4), .val (.ref mg), .val (.int kk), .val (.int c), .val (.int mu), .val (.int sel), .val (.int v9), .unset, .unset, .unset] [])) _
                refine XS.iconst X334.here hx rfl (hb hby at_420) ?_
                show Steps p.tables e below (T334.setTop (mkF m 421 #[.val (.int p1), .val (.int p2), .val (.int p3), .val (.int p4), .val (.ref mg), .val (.int kk), .val (.int c), .val (.int mu), .val (.int sel), .val (.int v9), .unset, .unset, .unset] [(.int (1 : Int32))])) _
                refine XS.goto X334.here hx rfl (pc0 := 421) (pc' := 425) rfl (hb hby at_421) (by decide) (by decide) ?_
                show Steps p.tables e below (T334.setTop (mkF m 425 #[.val (.int p1), .val (.int p2), .val (.int p3), .val (.int p4), .val (.ref mg), .val (.int kk), .val (.int c), .val (.int mu), .val (.int sel), .val (.int v9), .unset, .unset, .unset] [(.int (1 : Int32))])) _
                exact retN X334 hx (t := .boolean) Bd.returns (by simp) (hb hby at_425) hr
              · show Q0 h0 n0 _ T334.heap _
                exact ⟨rfl, N334⟩
              · show CHr Z own_EL s.vm s.heap T334.vm T334.heap
                rw [hh]
                exact R336.trans (CHv.at X334 hZ hEL R336.1)
            · by_cases hv1 : v9 = 1
              · have go338 : ∀ tg_, Steps p.tables e below (T104.setTop (mkF m 434 #[.val (.int p1), .val (.int p2), .val (.int p3), .val (.int p4), .val (.ref mg), .val (.int kk), .val (.int c), .val (.int mu), .val (.int sel), .val (.int v9), .unset, .unset, .unset] [(.ref mg)])) tg_ → Steps p.tables e below (s₁.setTop (entryFrame m #[(.int p1), (.int p2), (.int p3), (.int p4)] maxLocals)) tg_ := fun tg_ k => go327 tg_ (by
                    show Steps p.tables e below (T104.setTop (mkF m 407 #[.val (.int p1), .val (.int p2), .val (.int p3), .val (.int p4), .val (.ref mg), .val (.int kk), .val (.int c), .val (.int mu), .val (.int sel), .val (.int v9), .unset, .unset, .unset] [(.int v9)])) _
                    refine XS.ifYes X104.here hx rfl (pc0 := 407) (pc' := 426) rfl (hb hby at_407) rfl ((if0 _ _).trans (feq (hv0 : ¬ (v9 = (0 : Int32)))).2) (by decide) (by decide) ?_
                    show Steps p.tables e below (T104.setTop (mkF m 426 #[.val (.int p1), .val (.int p2), .val (.int p3), .val (.int p4), .val (.ref mg), .val (.int kk), .val (.int c), .val (.int mu), .val (.int sel), .val (.int v9), .unset, .unset, .unset] [])) _
                    refine XS.iload X104.here hx rfl (hb hby at_426) rfl ?_
                    show Steps p.tables e below (T104.setTop (mkF m 428 #[.val (.int p1), .val (.int p2), .val (.int p3), .val (.int p4), .val (.ref mg), .val (.int kk), .val (.int c), .val (.int mu), .val (.int sel), .val (.int v9), .unset, .unset, .unset] [(.int v9)])) _
                    refine XS.iconst X104.here hx rfl (hb hby at_428) ?_
                    show Steps p.tables e below (T104.setTop (mkF m 429 #[.val (.int p1), .val (.int p2), .val (.int p3), .val (.int p4), .val (.ref mg), .val (.int kk), .val (.int c), .val (.int mu), .val (.int sel), .val (.int v9), .unset, .unset, .unset] [(.int (1 : Int32)), (.int v9)])) _
                    refine XS.icmpNo X104.here hx rfl (hb hby at_429) rfl (teq (hv1 : v9 = (1 : Int32))).2 ?_
                    show Steps p.tables e below (T104.setTop (mkF m 432 #[.val (.int p1), .val (.int p2), .val (.int p3), .val (.int p4), .val (.ref mg), .val (.int kk), .val (.int c), .val (.int mu), .val (.int sel), .val (.int v9), .unset, .unset, .unset] [])) _
                    refine XS.aload X104.here hx rfl (hb hby at_432) rfl rfl ?_
                    exact k)
                have HK_339 := (Nat.le_trans (Nat.le_trans hk0 K101.1) K104.1)
                obtain ⟨x, T337, h337, kq337, t_x, kb_x, X337, e337, E337, hS337, hk337, hZ, hown, E_x, F_coder_x, F_value_x, V_t_x, lt_x, lt_t_x, C337, Li337, sn337, st337⟩ := ldcCH X104 hx hZ hown (hw _ (List.mem_of_getElem? (i := 85) rfl)) hsA rfl hS0 HK_339 hEL (by decide) R105.1 (text := "IDL:omg.org/PortableServer/POAManager") (vs := ((own_L3.map (fun c => c.toInt8.toInt32)).map Value.int)) (z := (37 : Int32)) own_txt_3 (by decide) rfl (g := (mkF m 434 #[.val (.int p1), .val (.int p2), .val (.int p3), .val (.int p4), .val (.ref mg), .val (.int kk), .val (.int c), .val (.int mu), .val (.int sel), .val (.int v9), .unset, .unset, .unset] [(.ref mg)])) rfl (hb hby at_434) (n := 148) (by decide) (by decide) (by decide) (by decide)
                have K337 : Keep T104.heap h337 [] := (Keep.refl _ []).ext E337
                have R340 := R105.trans C337
                have O_341 := ((O_103.keep K104 (allS g_mg all0)).keep K337 all0)
                obtain ⟨r, hr1, rt⟩ := rmIA l Z a0 hw [] mg x t_x kb_x own_L3 G1 h337 n0 E_x F_value_x F_coder_x V_t_x own_lr3 (by decide) O2 P5 O_341
                obtain rfl : r = 0 := by
                  rcases hr1 with ⟨-, h⟩ | ⟨h, -⟩
                  · exact absurd h (by decide)
                  · exact h
                have E_mg_342 := (Em104.keep K337)
                have go344 : ∀ tg_, Steps p.tables e below (T337.setTop (mkF m 436 #[.val (.int p1), .val (.int p2), .val (.int p3), .val (.int p4), .val (.ref mg), .val (.int kk), .val (.int c), .val (.int mu), .val (.int sel), .val (.int v9), .unset, .unset, .unset] [(.ref x), (.ref mg)])) tg_ → Steps p.tables e below (s₁.setTop (entryFrame m #[(.int p1), (.int p2), (.int p3), (.int p4)] maxLocals)) tg_ := fun tg_ k => go338 tg_ (by
                    show Steps p.tables e below (T104.setTop (mkF m 434 #[.val (.int p1), .val (.int p2), .val (.int p3), .val (.int p4), .val (.ref mg), .val (.int kk), .val (.int c), .val (.int mu), .val (.int sel), .val (.int v9), .unset, .unset, .unset] [(.ref mg)])) _
                    refine st337 _ ?_
                    exact k)
                obtain ⟨cq343, kq343, q343a, q343b, q343c⟩ := isOf hZ e337 E_mg_342
                obtain ⟨_, _, ⟨T343, L343, kk343, nn343⟩, -, Y343, hT343, gr343, ⟨Lc343, hQ343, l343, y343, z343, C343⟩, st343⟩ := X337.virtualBackS hx (y := (⟨"com/example/tramway/tramway/poa/TramwayPoaManager", "_is_a", "(Ljava/lang/String;)Z"⟩ : MethodName)) (z := (⟨"com/example/tramway/tramway/poa/TramwayPoaManager", "_is_a", "(Ljava/lang/String;)Z"⟩ : MethodName)) hown (mvT hZ (hw _ (List.mem_of_getElem? (i := 47) rfl))) (mvT hZ (hw _ (List.mem_of_getElem? (i := 48) rfl))) (notFace_of_selects (args := #[]) (mvT hZ (hw _ (List.mem_of_getElem? (i := 50) rfl)))) (mvT hZ (hw _ (List.mem_of_getElem? (i := 50) rfl))) (mvT hZ (hw _ (List.mem_of_getElem? (i := 49) rfl))) (by decide) (backOfSH (W := 0) (rt) hZ (hw _ (List.mem_of_getElem? (i := 51) rfl)) (hw _ (List.mem_of_getElem? (i := 2) rfl)) (by decide) (by decide) hEL R340.1) q343a q343c (g := (mkF m 436 #[.val (.int p1), .val (.int p2), .val (.int p3), .val (.int p4), .val (.ref mg), .val (.int kk), .val (.int c), .val (.int mu), .val (.int sel), .val (.int v9), .unset, .unset, .unset] [(.ref x), (.ref mg)])) rfl (by rw [hml]; rfl) (Steps.refl _) (argsL := [(.ref x)]) (rest := []) (lenOf pd__Ljava_lang_String__Z rfl) rfl (by show 2 * 0 + _ ≤ _; exact Nat.le_of_eq rfl) (hb hby at_436) (fun _ _ => ⟨rfl, e337, Nat.le_of_ble_eq_true rfl, Nat.le_of_ble_eq_true rfl⟩)
                dsimp only [Pt.U, Pt.locs, Pt.cells, Pt.slots] at Y343 hT343 gr343 l343 y343 z343 C343 st343 hQ343
                subst l343 y343 z343
                obtain ⟨X343, hS343, hZ, hown⟩ := rebS hS337 (by rw [e337]; exact hk337) Y343 hT343 gr343 hZ hown
                have hk343 := Nat.le_refl T343.heap.size
                obtain ⟨rfl, Nq343, K343⟩ := hQ343
                have N343 := Fr.app N104 Nq343
                have R345 := R340.trans C343
                obtain ⟨fs, hr, hrun, hended, hRE⟩ := X343.leaveW hS343 hk343 (v := some (.int (1 : Int32))) (fun h => by rw [Bd.returns] at h; cases h)
                refine ⟨_, _, go344 _ ?_, hrun, hended, _, _, rfl, ?_, ?_, hRE.1, hRE.2.1, hRE.2.2.1, hRE.2.2.2.mono (by decide) (by decide)⟩
                · show Steps p.tables e below (T337.setTop (mkF m 436 #[.val (.int p1), .val (.int p2), .val (.int p3), .val (.int p4), .val (.ref mg), .val (.int kk), .val (.int c), .val (.int mu), .val (.int sel), .val (.int v9), .unset, .unset, .unset] [(.ref x), (.ref mg)])) _
                  refine st343.trans ?_
                  show Steps p.tables e below (T343.setTop (mkF m 439 #[.val (.int p1), .val (.int p2), .val (.int p3), .val (.int p4), .val (.ref mg), .val (.int kk), .val (.int c), .val (.int mu), .val (.int sel), .val (.int v9), .unset, .unset, .unset] [(.int (0 : Int32))])) _
                  refine XS.ifNo X343.here hx rfl (hb hby at_439) rfl ((if0 _ _).trans (teq (rfl : (0 : Int32) = (0 : Int32))).2) ?_
                  show Steps p.tables e below (T343.setTop (mkF m 442 #[.val (.int p1), .val (.int p2), .val (.int p3), .val (.int p4), .val (.ref mg), .val (.int kk), .val (.int c), .val (.int mu), .val (.int sel), .val (.int v9), .unset, .unset, .unset] [])) _
                  refine XS.iconst X343.here hx rfl (hb hby at_442) ?_
                  show Steps p.tables e below (T343.setTop (mkF m 443 #[.val (.int p1), .val (.int p2), .val (.int p3), .val (.int p4), .val (.ref mg), .val (.int kk), .val (.int c), .val (.int mu), .val (.int sel), .val (.int v9), .unset, .unset, .unset] [(.int (1 : Int32))])) _
                  refine XS.goto X343.here hx rfl (pc0 := 443) (pc' := 447) rfl (hb hby at_443) (by decide) (by decide) ?_
                  show Steps p.tables e below (T343.setTop (mkF m 447 #[.val (.int p1), .val (.int p2), .val (.int p3), .val (.int p4), .val (.ref mg), .val (.int kk), .val (.int c), .val (.int mu), .val (.int sel), .val (.int v9), .unset, .unset, .unset] [(.int (1 : Int32))])) _
                  exact retN X343 hx (t := .boolean) Bd.returns (by simp) (hb hby at_447) hr
                · show Q0 h0 n0 _ T343.heap _
                  exact ⟨rfl, N343⟩
                · show CHr Z own_EL s.vm s.heap T343.vm T343.heap
                  rw [hh]
                  exact R345.trans (CHv.at X343 hZ hEL R345.1)
              · have go347 : ∀ tg_, Steps p.tables e below (T104.setTop (mkF m 450 #[.val (.int p1), .val (.int p2), .val (.int p3), .val (.int p4), .val (.ref mg), .val (.int kk), .val (.int c), .val (.int mu), .val (.int sel), .val (.int v9), .unset, .unset, .unset] [(.ref mg)])) tg_ → Steps p.tables e below (s₁.setTop (entryFrame m #[(.int p1), (.int p2), (.int p3), (.int p4)] maxLocals)) tg_ := fun tg_ k => go327 tg_ (by
                    show Steps p.tables e below (T104.setTop (mkF m 407 #[.val (.int p1), .val (.int p2), .val (.int p3), .val (.int p4), .val (.ref mg), .val (.int kk), .val (.int c), .val (.int mu), .val (.int sel), .val (.int v9), .unset, .unset, .unset] [(.int v9)])) _
                    refine XS.ifYes X104.here hx rfl (pc0 := 407) (pc' := 426) rfl (hb hby at_407) rfl ((if0 _ _).trans (feq (hv0 : ¬ (v9 = (0 : Int32)))).2) (by decide) (by decide) ?_
                    show Steps p.tables e below (T104.setTop (mkF m 426 #[.val (.int p1), .val (.int p2), .val (.int p3), .val (.int p4), .val (.ref mg), .val (.int kk), .val (.int c), .val (.int mu), .val (.int sel), .val (.int v9), .unset, .unset, .unset] [])) _
                    refine XS.iload X104.here hx rfl (hb hby at_426) rfl ?_
                    show Steps p.tables e below (T104.setTop (mkF m 428 #[.val (.int p1), .val (.int p2), .val (.int p3), .val (.int p4), .val (.ref mg), .val (.int kk), .val (.int c), .val (.int mu), .val (.int sel), .val (.int v9), .unset, .unset, .unset] [(.int v9)])) _
                    refine XS.iconst X104.here hx rfl (hb hby at_428) ?_
                    show Steps p.tables e below (T104.setTop (mkF m 429 #[.val (.int p1), .val (.int p2), .val (.int p3), .val (.int p4), .val (.ref mg), .val (.int kk), .val (.int c), .val (.int mu), .val (.int sel), .val (.int v9), .unset, .unset, .unset] [(.int (1 : Int32)), (.int v9)])) _
                    refine XS.icmpYes X104.here hx rfl (pc0 := 429) (pc' := 448) rfl (hb hby at_429) rfl (feq (hv1 : ¬ (v9 = (1 : Int32)))).2 (by decide) (by decide) ?_
                    show Steps p.tables e below (T104.setTop (mkF m 448 #[.val (.int p1), .val (.int p2), .val (.int p3), .val (.int p4), .val (.ref mg), .val (.int kk), .val (.int c), .val (.int mu), .val (.int sel), .val (.int v9), .unset, .unset, .unset] [])) _
                    refine XS.aload X104.here hx rfl (hb hby at_448) rfl rfl ?_
                    exact k)
                have HK_348 := (Nat.le_trans (Nat.le_trans hk0 K101.1) K104.1)
                obtain ⟨x, T346, h346, kq346, t_x, kb_x, X346, e346, E346, hS346, hk346, hZ, hown, E_x, F_coder_x, F_value_x, V_t_x, lt_x, lt_t_x, C346, Li346, sn346, st346⟩ := ldcCH X104 hx hZ hown (hw _ (List.mem_of_getElem? (i := 87) rfl)) hsA rfl hS0 HK_348 hEL (by decide) R105.1 (text := "IDL:omg.org/CORBA/Object") (vs := ((own_L4.map (fun c => c.toInt8.toInt32)).map Value.int)) (z := (24 : Int32)) own_txt_4 (by decide) rfl (g := (mkF m 450 #[.val (.int p1), .val (.int p2), .val (.int p3), .val (.int p4), .val (.ref mg), .val (.int kk), .val (.int c), .val (.int mu), .val (.int sel), .val (.int v9), .unset, .unset, .unset] [(.ref mg)])) rfl (hb hby at_450) (n := 96) (by decide) (by decide) (by decide) (by decide)
                have K346 : Keep T104.heap h346 [] := (Keep.refl _ []).ext E346
                have R349 := R105.trans C346
                have O_350 := ((O_103.keep K104 (allS g_mg all0)).keep K346 all0)
                obtain ⟨r, hr1, rt⟩ := rmIA l Z a0 hw [] mg x t_x kb_x own_L4 G1 h346 n0 E_x F_value_x F_coder_x V_t_x own_lr4 (by decide) O2 P5 O_350
                obtain rfl : r = 0 := by
                  rcases hr1 with ⟨-, h⟩ | ⟨h, -⟩
                  · exact absurd h (by decide)
                  · exact h
                have E_mg_351 := (Em104.keep K346)
                have go353 : ∀ tg_, Steps p.tables e below (T346.setTop (mkF m 452 #[.val (.int p1), .val (.int p2), .val (.int p3), .val (.int p4), .val (.ref mg), .val (.int kk), .val (.int c), .val (.int mu), .val (.int sel), .val (.int v9), .unset, .unset, .unset] [(.ref x), (.ref mg)])) tg_ → Steps p.tables e below (s₁.setTop (entryFrame m #[(.int p1), (.int p2), (.int p3), (.int p4)] maxLocals)) tg_ := fun tg_ k => go347 tg_ (by
                    show Steps p.tables e below (T104.setTop (mkF m 450 #[.val (.int p1), .val (.int p2), .val (.int p3), .val (.int p4), .val (.ref mg), .val (.int kk), .val (.int c), .val (.int mu), .val (.int sel), .val (.int v9), .unset, .unset, .unset] [(.ref mg)])) _
                    refine st346 _ ?_
                    exact k)
                obtain ⟨cq352, kq352, q352a, q352b, q352c⟩ := isOf hZ e346 E_mg_351
                obtain ⟨_, _, ⟨T352, L352, kk352, nn352⟩, -, Y352, hT352, gr352, ⟨Lc352, hQ352, l352, y352, z352, C352⟩, st352⟩ := X346.virtualBackS hx (y := (⟨"com/example/tramway/tramway/poa/TramwayPoaManager", "_is_a", "(Ljava/lang/String;)Z"⟩ : MethodName)) (z := (⟨"com/example/tramway/tramway/poa/TramwayPoaManager", "_is_a", "(Ljava/lang/String;)Z"⟩ : MethodName)) hown (mvT hZ (hw _ (List.mem_of_getElem? (i := 47) rfl))) (mvT hZ (hw _ (List.mem_of_getElem? (i := 48) rfl))) (notFace_of_selects (args := #[]) (mvT hZ (hw _ (List.mem_of_getElem? (i := 50) rfl)))) (mvT hZ (hw _ (List.mem_of_getElem? (i := 50) rfl))) (mvT hZ (hw _ (List.mem_of_getElem? (i := 49) rfl))) (by decide) (backOfSH (W := 0) (rt) hZ (hw _ (List.mem_of_getElem? (i := 51) rfl)) (hw _ (List.mem_of_getElem? (i := 2) rfl)) (by decide) (by decide) hEL R349.1) q352a q352c (g := (mkF m 452 #[.val (.int p1), .val (.int p2), .val (.int p3), .val (.int p4), .val (.ref mg), .val (.int kk), .val (.int c), .val (.int mu), .val (.int sel), .val (.int v9), .unset, .unset, .unset] [(.ref x), (.ref mg)])) rfl (by rw [hml]; rfl) (Steps.refl _) (argsL := [(.ref x)]) (rest := []) (lenOf pd__Ljava_lang_String__Z rfl) rfl (by show 2 * 0 + _ ≤ _; exact Nat.le_of_eq rfl) (hb hby at_452) (fun _ _ => ⟨rfl, e346, Nat.le_of_ble_eq_true rfl, Nat.le_of_ble_eq_true rfl⟩)
                dsimp only [Pt.U, Pt.locs, Pt.cells, Pt.slots] at Y352 hT352 gr352 l352 y352 z352 C352 st352 hQ352
                subst l352 y352 z352
                obtain ⟨X352, hS352, hZ, hown⟩ := rebS hS346 (by rw [e346]; exact hk346) Y352 hT352 gr352 hZ hown
                have hk352 := Nat.le_refl T352.heap.size
                obtain ⟨rfl, Nq352, K352⟩ := hQ352
                have N352 := Fr.app N104 Nq352
                have R354 := R349.trans C352
                obtain ⟨fs, hr, hrun, hended, hRE⟩ := X352.leaveW hS352 hk352 (v := some (.int (1 : Int32))) (fun h => by rw [Bd.returns] at h; cases h)
                refine ⟨_, _, go353 _ ?_, hrun, hended, _, _, rfl, ?_, ?_, hRE.1, hRE.2.1, hRE.2.2.1, hRE.2.2.2.mono (by decide) (by decide)⟩
                · show Steps p.tables e below (T346.setTop (mkF m 452 #[.val (.int p1), .val (.int p2), .val (.int p3), .val (.int p4), .val (.ref mg), .val (.int kk), .val (.int c), .val (.int mu), .val (.int sel), .val (.int v9), .unset, .unset, .unset] [(.ref x), (.ref mg)])) _
                  refine st352.trans ?_
                  show Steps p.tables e below (T352.setTop (mkF m 455 #[.val (.int p1), .val (.int p2), .val (.int p3), .val (.int p4), .val (.ref mg), .val (.int kk), .val (.int c), .val (.int mu), .val (.int sel), .val (.int v9), .unset, .unset, .unset] [(.int (0 : Int32))])) _
                  refine XS.ifNo X352.here hx rfl (hb hby at_455) rfl ((if0 _ _).trans (teq (rfl : (0 : Int32) = (0 : Int32))).2) ?_
                  show Steps p.tables e below (T352.setTop (mkF m 458 #[.val (.int p1), .val (.int p2), .val (.int p3), .val (.int p4), .val (.ref mg), .val (.int kk), .val (.int c), .val (.int mu), .val (.int sel), .val (.int v9), .unset, .unset, .unset] [])) _
                  refine XS.iconst X352.here hx rfl (hb hby at_458) ?_
                  show Steps p.tables e below (T352.setTop (mkF m 459 #[.val (.int p1), .val (.int p2), .val (.int p3), .val (.int p4), .val (.ref mg), .val (.int kk), .val (.int c), .val (.int mu), .val (.int sel), .val (.int v9), .unset, .unset, .unset] [(.int (1 : Int32))])) _
                  refine XS.goto X352.here hx rfl (pc0 := 459) (pc' := 463) rfl (hb hby at_459) (by decide) (by decide) ?_
                  show Steps p.tables e below (T352.setTop (mkF m 463 #[.val (.int p1), .val (.int p2), .val (.int p3), .val (.int p4), .val (.ref mg), .val (.int kk), .val (.int c), .val (.int mu), .val (.int sel), .val (.int v9), .unset, .unset, .unset] [(.int (1 : Int32))])) _
                  exact retN X352 hx (t := .boolean) Bd.returns (by simp) (hb hby at_463) hr
                · show Q0 h0 n0 _ T352.heap _
                  exact ⟨rfl, N352⟩
                · show CHr Z own_EL s.vm s.heap T352.vm T352.heap
                  rw [hh]
                  exact R354.trans (CHv.at X352 hZ hEL R354.1)
          · have go355 : ∀ tg_, Steps p.tables e below (T104.setTop (mkF m 468 #[.val (.int p1), .val (.int p2), .val (.int p3), .val (.int p4), .val (.ref mg), .val (.int kk), .val (.int c), .val (.int mu), .val (.int sel), .unset, .unset, .unset, .unset] [(.int (sel &&& (1 : Int32)))])) tg_ → Steps p.tables e below (s₁.setTop (entryFrame m #[(.int p1), (.int p2), (.int p3), (.int p4)] maxLocals)) tg_ := fun tg_ k => go111 tg_ (by
                show Steps p.tables e below (T104.setTop (mkF m 46 #[.val (.int p1), .val (.int p2), .val (.int p3), .val (.int p4), .val (.ref mg), .val (.int kk), .val (.int c), .val (.int mu), .val (.int sel), .unset, .unset, .unset, .unset] [(.int kk)])) _
                refine XS.ifYes X104.here hx rfl (pc0 := 46) (pc' := 124) rfl (hb hby at_46) rfl ((if0 _ _).trans (feq (ek0 : ¬ (kk = (0 : Int32)))).2) (by decide) (by decide) ?_
                show Steps p.tables e below (T104.setTop (mkF m 124 #[.val (.int p1), .val (.int p2), .val (.int p3), .val (.int p4), .val (.ref mg), .val (.int kk), .val (.int c), .val (.int mu), .val (.int sel), .unset, .unset, .unset, .unset] [])) _
                refine XS.iload X104.here hx rfl (hb hby at_124) rfl ?_
                show Steps p.tables e below (T104.setTop (mkF m 126 #[.val (.int p1), .val (.int p2), .val (.int p3), .val (.int p4), .val (.ref mg), .val (.int kk), .val (.int c), .val (.int mu), .val (.int sel), .unset, .unset, .unset, .unset] [(.int kk)])) _
                refine XS.iconst X104.here hx rfl (hb hby at_126) ?_
                show Steps p.tables e below (T104.setTop (mkF m 127 #[.val (.int p1), .val (.int p2), .val (.int p3), .val (.int p4), .val (.ref mg), .val (.int kk), .val (.int c), .val (.int mu), .val (.int sel), .unset, .unset, .unset, .unset] [(.int (1 : Int32)), (.int kk)])) _
                refine XS.icmpYes X104.here hx rfl (pc0 := 127) (pc' := 205) rfl (hb hby at_127) rfl (feq (ek1 : ¬ (kk = (1 : Int32)))).2 (by decide) (by decide) ?_
                show Steps p.tables e below (T104.setTop (mkF m 205 #[.val (.int p1), .val (.int p2), .val (.int p3), .val (.int p4), .val (.ref mg), .val (.int kk), .val (.int c), .val (.int mu), .val (.int sel), .unset, .unset, .unset, .unset] [])) _
                refine XS.iload X104.here hx rfl (hb hby at_205) rfl ?_
                show Steps p.tables e below (T104.setTop (mkF m 207 #[.val (.int p1), .val (.int p2), .val (.int p3), .val (.int p4), .val (.ref mg), .val (.int kk), .val (.int c), .val (.int mu), .val (.int sel), .unset, .unset, .unset, .unset] [(.int kk)])) _
                refine XS.iconst X104.here hx rfl (hb hby at_207) ?_
                show Steps p.tables e below (T104.setTop (mkF m 208 #[.val (.int p1), .val (.int p2), .val (.int p3), .val (.int p4), .val (.ref mg), .val (.int kk), .val (.int c), .val (.int mu), .val (.int sel), .unset, .unset, .unset, .unset] [(.int (2 : Int32)), (.int kk)])) _
                refine XS.icmpYes X104.here hx rfl (pc0 := 208) (pc' := 226) rfl (hb hby at_208) rfl (feq (ek2 : ¬ (kk = (2 : Int32)))).2 (by decide) (by decide) ?_
                show Steps p.tables e below (T104.setTop (mkF m 226 #[.val (.int p1), .val (.int p2), .val (.int p3), .val (.int p4), .val (.ref mg), .val (.int kk), .val (.int c), .val (.int mu), .val (.int sel), .unset, .unset, .unset, .unset] [])) _
                refine XS.iload X104.here hx rfl (hb hby at_226) rfl ?_
                show Steps p.tables e below (T104.setTop (mkF m 228 #[.val (.int p1), .val (.int p2), .val (.int p3), .val (.int p4), .val (.ref mg), .val (.int kk), .val (.int c), .val (.int mu), .val (.int sel), .unset, .unset, .unset, .unset] [(.int kk)])) _
                refine XS.iconst X104.here hx rfl (hb hby at_228) ?_
                show Steps p.tables e below (T104.setTop (mkF m 229 #[.val (.int p1), .val (.int p2), .val (.int p3), .val (.int p4), .val (.ref mg), .val (.int kk), .val (.int c), .val (.int mu), .val (.int sel), .unset, .unset, .unset, .unset] [(.int (3 : Int32)), (.int kk)])) _
                refine XS.icmpYes X104.here hx rfl (pc0 := 229) (pc' := 393) rfl (hb hby at_229) rfl (feq (ek3 : ¬ (kk = (3 : Int32)))).2 (by decide) (by decide) ?_
                show Steps p.tables e below (T104.setTop (mkF m 393 #[.val (.int p1), .val (.int p2), .val (.int p3), .val (.int p4), .val (.ref mg), .val (.int kk), .val (.int c), .val (.int mu), .val (.int sel), .unset, .unset, .unset, .unset] [])) _
                refine XS.iload X104.here hx rfl (hb hby at_393) rfl ?_
                show Steps p.tables e below (T104.setTop (mkF m 395 #[.val (.int p1), .val (.int p2), .val (.int p3), .val (.int p4), .val (.ref mg), .val (.int kk), .val (.int c), .val (.int mu), .val (.int sel), .unset, .unset, .unset, .unset] [(.int kk)])) _
                refine XS.iconst X104.here hx rfl (hb hby at_395) ?_
                show Steps p.tables e below (T104.setTop (mkF m 396 #[.val (.int p1), .val (.int p2), .val (.int p3), .val (.int p4), .val (.ref mg), .val (.int kk), .val (.int c), .val (.int mu), .val (.int sel), .unset, .unset, .unset, .unset] [(.int (4 : Int32)), (.int kk)])) _
                refine XS.icmpYes X104.here hx rfl (pc0 := 396) (pc' := 464) rfl (hb hby at_396) rfl (feq (ek4 : ¬ (kk = (4 : Int32)))).2 (by decide) (by decide) ?_
                show Steps p.tables e below (T104.setTop (mkF m 464 #[.val (.int p1), .val (.int p2), .val (.int p3), .val (.int p4), .val (.ref mg), .val (.int kk), .val (.int c), .val (.int mu), .val (.int sel), .unset, .unset, .unset, .unset] [])) _
                refine XS.iload X104.here hx rfl (hb hby at_464) rfl ?_
                show Steps p.tables e below (T104.setTop (mkF m 466 #[.val (.int p1), .val (.int p2), .val (.int p3), .val (.int p4), .val (.ref mg), .val (.int kk), .val (.int c), .val (.int mu), .val (.int sel), .unset, .unset, .unset, .unset] [(.int sel)])) _
                refine XS.iconst X104.here hx rfl (hb hby at_466) ?_
                show Steps p.tables e below (T104.setTop (mkF m 467 #[.val (.int p1), .val (.int p2), .val (.int p3), .val (.int p4), .val (.ref mg), .val (.int kk), .val (.int c), .val (.int mu), .val (.int sel), .unset, .unset, .unset, .unset] [(.int (1 : Int32)), (.int sel)])) _
                refine XS.iand X104.here hx rfl (hb hby at_467) rfl ?_
                exact k)
            by_cases hodd : (sel &&& (1 : Int32)) = 0
            · obtain ⟨T356, h356, X356, e356, E356, A356, D356, -, st356⟩ := newO X104 hx hZ hown (hw _ (List.mem_of_getElem? (i := 20) rfl)) (hw _ (List.mem_of_getElem? (i := 21) rfl)) (hw _ (List.mem_of_getElem? (i := 22) rfl)) rfl (g := (mkF m 473 #[.val (.int p1), .val (.int p2), .val (.int p3), .val (.int p4), .val (.ref mg), .val (.int kk), .val (.int c), .val (.int mu), .val (.int sel), .unset, .unset, .unset, .unset] [(.ref mg)])) rfl (hb hby at_473) (by decide) (by decide)
              obtain ⟨x, g356⟩ : ∃ z, z = T104.heap.size := ⟨_, rfl⟩
              rw [← g356] at A356 D356 st356
              have Z_357 := (Nat.le_trans (Nat.le_trans Z0 K101.1) K104.1)
              have g_x : n0 ≤ x := Nat.le_trans Z_357 (Nat.le_of_eq g356.symm)
              have lt_mg_358 := (Nat.lt_of_lt_of_le lt_mg K104.1)
              have ne_mg_x : mg ≠ x := (Nat.ne_of_lt (Nat.lt_of_lt_of_le lt_mg_358 (Nat.le_of_eq g356.symm)))
              have F_coder_x : Fld Z h356 x "java/lang/String" "coder" "B" (.int (0 : Int32)) := D356 (Or.inr (hw _ (List.mem_of_getElem? (i := 44) rfl))) (ty := .byte) (by decide)
              have F_value_x : Fld Z h356 x "java/lang/String" "value" "[B" .null := D356 (Or.inr (hw _ (List.mem_of_getElem? (i := 46) rfl))) (ty := (.array .byte)) (by decide)
              have K356 : Keep T104.heap h356 [] := (Keep.refl _ []).ext E356
              have hs359 : ∀ sx_ ∈ ([] : List Addr), Safe Z own_EL s.vm T104.heap sx_ := all0
              have R359 := R105.trans (CHr.keep K356 hs359 R105.1)
              have lt_x : x < h356.size := A356.lt
              have Z_360 := (Nat.le_trans Z_357 K356.1)
              obtain ⟨_, _, ⟨T361, L361, kk361, nn361⟩, -, X361, ⟨Lc361, hQ361, l361, y361, z361⟩, st361⟩ := Jvm.LawKit.callS X356 hx (y := (⟨"com/example/tramway/tramway/poa/TramwayPoaManagerIs_aPinLaw", "mgrPlus", "(C)[C"⟩ : MethodName)) hown (mvT hZ (hw _ (List.mem_of_getElem? (i := 82) rfl))) (mvT hZ (hw _ (List.mem_of_getElem? (i := 83) rfl))) (mvT hZ (hw _ (List.mem_of_getElem? (i := 17) rfl))) (mvT hZ (hw _ (List.mem_of_getElem? (i := 84) rfl))) (by decide) (backOf (W := 3) (rm_mgrPlus l Z a0 hw [] c h356 n0 Z_360) hZ (hw _ (List.mem_of_getElem? (i := 84) rfl)) (hw _ (List.mem_of_getElem? (i := 17) rfl)) (by decide) (by decide)) (g := (mkF m 479 #[.val (.int p1), .val (.int p2), .val (.int p3), .val (.int p4), .val (.ref mg), .val (.int kk), .val (.int c), .val (.int mu), .val (.int sel), .unset, .unset, .unset, .unset] [(.int c), (.ref x), (.ref x), (.ref mg)])) rfl (by rw [hml]; rfl) (argsL := [(.int c)]) (rest := [(.ref x), (.ref x), (.ref mg)]) (lenOf pd__C__C rfl) rfl (by show 2 * 0 + _ ≤ _; exact Nat.le_of_eq rfl) (hb hby at_479) (fun _ _ => ⟨rfl, e356, Nat.le_of_ble_eq_true rfl, Nat.le_of_ble_eq_true rfl⟩)
              dsimp only [Pt.U, Pt.locs, Pt.cells, Pt.slots] at X361 l361 y361 z361 st361 hQ361
              subst l361 y361 z361
              obtain ⟨ar361, ka361, rfl, Nq361, K361, g_ar361, le361, V_ar361⟩ := hQ361
              have N361 := Fr.app N104 Nq361
              have hs362 : ∀ sx_ ∈ ([] : List Addr), Safe Z own_EL s.vm h356 sx_ := all0
              have R362 := R359.trans (CHr.keep K361 hs362 R359.1)
              have E_x_363 := (A356.keep K361)
              have F_value_x_364 := (F_value_x.keep K361 nin0)
              have sfx : Safe Z own_EL s.vm T361.heap x := own_safe_null hZ.alike E_x_363 F_value_x_364 (hw _ (List.mem_of_getElem? (i := 21) rfl))
              have Z_365 := (Nat.le_trans Z_360 K361.1)
              have O_366 := (((O_103.keep K104 (allS g_mg all0)).keep K356 all0).keep K361 all0)
              have F_coder_x_367 := (F_coder_x.keep K361 nin0)
              obtain ⟨_, _, ⟨T368, L368, kk368, nn368⟩, -, X368, ⟨Lc368, hQ368, l368, y368, z368⟩, st368⟩ := X361.specialBack hx (y := (⟨"java/lang/String", "<init>", "([C)V"⟩ : MethodName)) rfl hown (mvT hZ (hw _ (List.mem_of_getElem? (i := 23) rfl))) (mvT hZ (hw _ (List.mem_of_getElem? (i := 24) rfl))) (mvT hZ (hw _ (List.mem_of_getElem? (i := 25) rfl))) (by decide) (StrChars.Road.backV (W := 2) hZ hws (kI := 4) (hw _ (List.mem_of_getElem? (i := 21) rfl)) (cs := (own_L0 ++ [nar .char c])) (bs := ((own_L0 ++ [nar .char c])).map (fun c => c.toInt8.toInt32)) (n := 42) g_x Z_365 E_x_363 F_value_x_364 F_coder_x_367 V_ar361 (O2.ext O_366.2) P5 (by simp [own_L0, own_L1]) rfl (by decide) (by decide) (own_app_rng own_lr0 ⟨rc.1, rc.2.1⟩) rfl (by decide) (by decide)) (g := (mkF m 482 #[.val (.int p1), .val (.int p2), .val (.int p3), .val (.int p4), .val (.ref mg), .val (.int kk), .val (.int c), .val (.int mu), .val (.int sel), .unset, .unset, .unset, .unset] [(.ref ar361), (.ref x), (.ref x), (.ref mg)])) rfl (by rw [hml]; rfl) (Steps.refl _) (a := x) (argsL := [(.ref ar361)]) (rest := [(.ref x), (.ref mg)]) (lenOf pd___C_V rfl) rfl (by show 2 * 0 + _ ≤ _; exact Nat.le_of_eq rfl) (hb hby at_482) (fun _ _ => ⟨rfl, rfl, Nat.le_of_ble_eq_true rfl, Nat.le_of_ble_eq_true rfl⟩)
              dsimp only [Pt.U, Pt.locs, Pt.cells, Pt.slots] at X368 l368 y368 z368 st368 hQ368
              subst l368 y368 z368
              obtain ⟨rfl, Nq368, K368, Eq368, Fc368, t368, kb368, g_t368, le368, nx368, Fv368, V_t368⟩ := hQ368
              have N368 := Fr.app N361 Nq368
              have hs369 : ∀ sx_ ∈ ([x] : List Addr), Safe Z own_EL s.vm T361.heap sx_ := (allS sfx all0)
              have R369 := R362.trans (CHr.keep K368 hs369 R362.1)
              have V_t368_ : Arv Z T368.heap t368 kb368 .byte (Int32.ofNat ((own_L0 ++ [nar .char c])).length) ((((own_L0 ++ [nar .char c])).map (fun c => c.toInt8.toInt32)).map Value.int) (.int (0 : Int32)) := by
                have e : ((own_L0 ++ [nar .char c])).length = 42 := by simp [own_L0, own_L1]
                rw [e]; exact V_t368
              have O_370 := (O_366.keep K368 (allS g_x all0))
              obtain ⟨r, hr1, rt⟩ := rmIA l Z a0 hw [] mg x t368 kb368 (own_L0 ++ [nar .char c]) G1 T368.heap n0 Eq368 Fv368 Fc368 V_t368_ (own_app_rng own_lr0 ⟨rc.1, rc.2.1⟩) (by simp [own_L0, own_L1, own_L2, own_L3, own_L4]) O2 P5 O_370
              obtain rfl : r = 0 := by
                rcases hr1 with ⟨-, h⟩ | ⟨h, -⟩
                · exact absurd h (own_long (by simp [own_L0, own_L1]))
                · exact h
              have E_mg_371 := (((Em104.keep K356).keep K361).keep K368)
              have HK_373 := (Nat.le_trans (Nat.le_trans (Nat.le_trans (Nat.le_trans (Nat.le_trans hk0 K101.1) K104.1) K356.1) K361.1) K368.1)
              have go374 : ∀ tg_, Steps p.tables e below (T368.setTop (mkF m 485 #[.val (.int p1), .val (.int p2), .val (.int p3), .val (.int p4), .val (.ref mg), .val (.int kk), .val (.int c), .val (.int mu), .val (.int sel), .unset, .unset, .unset, .unset] [(.ref x), (.ref mg)])) tg_ → Steps p.tables e below (s₁.setTop (entryFrame m #[(.int p1), (.int p2), (.int p3), (.int p4)] maxLocals)) tg_ := fun tg_ k => go355 tg_ (by
                  show Steps p.tables e below (T104.setTop (mkF m 468 #[.val (.int p1), .val (.int p2), .val (.int p3), .val (.int p4), .val (.ref mg), .val (.int kk), .val (.int c), .val (.int mu), .val (.int sel), .unset, .unset, .unset, .unset] [(.int (sel &&& (1 : Int32)))])) _
                  refine XS.ifNo X104.here hx rfl (hb hby at_468) rfl ((if0 _ _).trans (teq (hodd : (sel &&& (1 : Int32)) = (0 : Int32))).2) ?_
                  show Steps p.tables e below (T104.setTop (mkF m 471 #[.val (.int p1), .val (.int p2), .val (.int p3), .val (.int p4), .val (.ref mg), .val (.int kk), .val (.int c), .val (.int mu), .val (.int sel), .unset, .unset, .unset, .unset] [])) _
                  refine XS.aload X104.here hx rfl (hb hby at_471) rfl rfl ?_
                  show Steps p.tables e below (T104.setTop (mkF m 473 #[.val (.int p1), .val (.int p2), .val (.int p3), .val (.int p4), .val (.ref mg), .val (.int kk), .val (.int c), .val (.int mu), .val (.int sel), .unset, .unset, .unset, .unset] [(.ref mg)])) _
                  refine st356 _ ?_
                  show Steps p.tables e below (T356.setTop (mkF m 476 #[.val (.int p1), .val (.int p2), .val (.int p3), .val (.int p4), .val (.ref mg), .val (.int kk), .val (.int c), .val (.int mu), .val (.int sel), .unset, .unset, .unset, .unset] [(.ref x), (.ref mg)])) _
                  refine XS.dup X356.here hx rfl (hb hby at_476) rfl rfl ?_
                  show Steps p.tables e below (T356.setTop (mkF m 477 #[.val (.int p1), .val (.int p2), .val (.int p3), .val (.int p4), .val (.ref mg), .val (.int kk), .val (.int c), .val (.int mu), .val (.int sel), .unset, .unset, .unset, .unset] [(.ref x), (.ref x), (.ref mg)])) _
                  refine XS.iload X356.here hx rfl (hb hby at_477) rfl ?_
                  show Steps p.tables e below (T356.setTop (mkF m 479 #[.val (.int p1), .val (.int p2), .val (.int p3), .val (.int p4), .val (.ref mg), .val (.int kk), .val (.int c), .val (.int mu), .val (.int sel), .unset, .unset, .unset, .unset] [(.int c), (.ref x), (.ref x), (.ref mg)])) _
                  refine st361 _ ?_
                  show Steps p.tables e below (T361.setTop (mkF m 482 #[.val (.int p1), .val (.int p2), .val (.int p3), .val (.int p4), .val (.ref mg), .val (.int kk), .val (.int c), .val (.int mu), .val (.int sel), .unset, .unset, .unset, .unset] [(.ref ar361), (.ref x), (.ref x), (.ref mg)])) _
                  refine st368.trans ?_
                  exact k)
              obtain ⟨cq372, kq372, q372a, q372b, q372c⟩ := isOf hZ rfl E_mg_371
              obtain ⟨_, _, ⟨T372, L372, kk372, nn372⟩, -, Y372, hT372, gr372, ⟨Lc372, hQ372, l372, y372, z372, C372⟩, st372⟩ := X368.virtualBackS hx (y := (⟨"com/example/tramway/tramway/poa/TramwayPoaManager", "_is_a", "(Ljava/lang/String;)Z"⟩ : MethodName)) (z := (⟨"com/example/tramway/tramway/poa/TramwayPoaManager", "_is_a", "(Ljava/lang/String;)Z"⟩ : MethodName)) hown (mvT hZ (hw _ (List.mem_of_getElem? (i := 47) rfl))) (mvT hZ (hw _ (List.mem_of_getElem? (i := 48) rfl))) (notFace_of_selects (args := #[]) (mvT hZ (hw _ (List.mem_of_getElem? (i := 50) rfl)))) (mvT hZ (hw _ (List.mem_of_getElem? (i := 50) rfl))) (mvT hZ (hw _ (List.mem_of_getElem? (i := 49) rfl))) (by decide) (backOfSH (W := 0) (rt) hZ (hw _ (List.mem_of_getElem? (i := 51) rfl)) (hw _ (List.mem_of_getElem? (i := 2) rfl)) (by decide) (by decide) hEL R369.1) q372a q372c (g := (mkF m 485 #[.val (.int p1), .val (.int p2), .val (.int p3), .val (.int p4), .val (.ref mg), .val (.int kk), .val (.int c), .val (.int mu), .val (.int sel), .unset, .unset, .unset, .unset] [(.ref x), (.ref mg)])) rfl (by rw [hml]; rfl) (Steps.refl _) (argsL := [(.ref x)]) (rest := []) (lenOf pd__Ljava_lang_String__Z rfl) rfl (by show 2 * 0 + _ ≤ _; exact Nat.le_of_eq rfl) (hb hby at_485) (fun _ _ => ⟨rfl, rfl, Nat.le_of_ble_eq_true rfl, Nat.le_of_ble_eq_true rfl⟩)
              dsimp only [Pt.U, Pt.locs, Pt.cells, Pt.slots] at Y372 hT372 gr372 l372 y372 z372 C372 st372 hQ372
              subst l372 y372 z372
              obtain ⟨X372, hS372, hZ, hown⟩ := rebS hS0 HK_373 Y372 hT372 gr372 hZ hown
              have hk372 := Nat.le_refl T372.heap.size
              obtain ⟨rfl, Nq372, K372⟩ := hQ372
              have N372 := Fr.app N368 Nq372
              have R375 := R369.trans C372
              obtain ⟨fs, hr, hrun, hended, hRE⟩ := X372.leaveW hS372 hk372 (v := some (.int (1 : Int32))) (fun h => by rw [Bd.returns] at h; cases h)
              refine ⟨_, _, go374 _ ?_, hrun, hended, _, _, rfl, ?_, ?_, hRE.1, hRE.2.1, hRE.2.2.1, hRE.2.2.2.mono (by decide) (by decide)⟩
              · show Steps p.tables e below (T368.setTop (mkF m 485 #[.val (.int p1), .val (.int p2), .val (.int p3), .val (.int p4), .val (.ref mg), .val (.int kk), .val (.int c), .val (.int mu), .val (.int sel), .unset, .unset, .unset, .unset] [(.ref x), (.ref mg)])) _
                refine st372.trans ?_
                show Steps p.tables e below (T372.setTop (mkF m 488 #[.val (.int p1), .val (.int p2), .val (.int p3), .val (.int p4), .val (.ref mg), .val (.int kk), .val (.int c), .val (.int mu), .val (.int sel), .unset, .unset, .unset, .unset] [(.int (0 : Int32))])) _
                refine XS.ifNo X372.here hx rfl (hb hby at_488) rfl ((if0 _ _).trans (teq (rfl : (0 : Int32) = (0 : Int32))).2) ?_
                show Steps p.tables e below (T372.setTop (mkF m 491 #[.val (.int p1), .val (.int p2), .val (.int p3), .val (.int p4), .val (.ref mg), .val (.int kk), .val (.int c), .val (.int mu), .val (.int sel), .unset, .unset, .unset, .unset] [])) _
                refine XS.iconst X372.here hx rfl (hb hby at_491) ?_
                show Steps p.tables e below (T372.setTop (mkF m 492 #[.val (.int p1), .val (.int p2), .val (.int p3), .val (.int p4), .val (.ref mg), .val (.int kk), .val (.int c), .val (.int mu), .val (.int sel), .unset, .unset, .unset, .unset] [(.int (1 : Int32))])) _
                refine XS.goto X372.here hx rfl (pc0 := 492) (pc' := 496) rfl (hb hby at_492) (by decide) (by decide) ?_
                show Steps p.tables e below (T372.setTop (mkF m 496 #[.val (.int p1), .val (.int p2), .val (.int p3), .val (.int p4), .val (.ref mg), .val (.int kk), .val (.int c), .val (.int mu), .val (.int sel), .unset, .unset, .unset, .unset] [(.int (1 : Int32))])) _
                exact retN X372 hx (t := .boolean) Bd.returns (by simp) (hb hby at_496) hr
              · show Q0 h0 n0 _ T372.heap _
                exact ⟨rfl, N372⟩
              · show CHr Z own_EL s.vm s.heap T372.vm T372.heap
                rw [hh]
                exact R375.trans (CHv.at X372 hZ hEL R375.1)
            · obtain ⟨T376, h376, X376, e376, E376, A376, D376, -, st376⟩ := newO X104 hx hZ hown (hw _ (List.mem_of_getElem? (i := 20) rfl)) (hw _ (List.mem_of_getElem? (i := 21) rfl)) (hw _ (List.mem_of_getElem? (i := 22) rfl)) rfl (g := (mkF m 499 #[.val (.int p1), .val (.int p2), .val (.int p3), .val (.int p4), .val (.ref mg), .val (.int kk), .val (.int c), .val (.int mu), .val (.int sel), .unset, .unset, .unset, .unset] [(.ref mg)])) rfl (hb hby at_499) (by decide) (by decide)
              obtain ⟨x, g376⟩ : ∃ z, z = T104.heap.size := ⟨_, rfl⟩
              rw [← g376] at A376 D376 st376
              have Z_377 := (Nat.le_trans (Nat.le_trans Z0 K101.1) K104.1)
              have g_x : n0 ≤ x := Nat.le_trans Z_377 (Nat.le_of_eq g376.symm)
              have lt_mg_378 := (Nat.lt_of_lt_of_le lt_mg K104.1)
              have ne_mg_x : mg ≠ x := (Nat.ne_of_lt (Nat.lt_of_lt_of_le lt_mg_378 (Nat.le_of_eq g376.symm)))
              have F_coder_x : Fld Z h376 x "java/lang/String" "coder" "B" (.int (0 : Int32)) := D376 (Or.inr (hw _ (List.mem_of_getElem? (i := 44) rfl))) (ty := .byte) (by decide)
              have F_value_x : Fld Z h376 x "java/lang/String" "value" "[B" .null := D376 (Or.inr (hw _ (List.mem_of_getElem? (i := 46) rfl))) (ty := (.array .byte)) (by decide)
              have K376 : Keep T104.heap h376 [] := (Keep.refl _ []).ext E376
              have hs379 : ∀ sx_ ∈ ([] : List Addr), Safe Z own_EL s.vm T104.heap sx_ := all0
              have R379 := R105.trans (CHr.keep K376 hs379 R105.1)
              have lt_x : x < h376.size := A376.lt
              have Z_380 := (Nat.le_trans Z_377 K376.1)
              obtain ⟨_, _, ⟨T381, L381, kk381, nn381⟩, -, X381, ⟨Lc381, hQ381, l381, y381, z381⟩, st381⟩ := Jvm.LawKit.callS X376 hx (y := (⟨"com/example/tramway/tramway/poa/TramwayPoaManagerIs_aPinLaw", "objPlus", "(C)[C"⟩ : MethodName)) hown (mvT hZ (hw _ (List.mem_of_getElem? (i := 88) rfl))) (mvT hZ (hw _ (List.mem_of_getElem? (i := 89) rfl))) (mvT hZ (hw _ (List.mem_of_getElem? (i := 17) rfl))) (mvT hZ (hw _ (List.mem_of_getElem? (i := 90) rfl))) (by decide) (backOf (W := 3) (rm_objPlus l Z a0 hw [] c h376 n0 Z_380) hZ (hw _ (List.mem_of_getElem? (i := 90) rfl)) (hw _ (List.mem_of_getElem? (i := 17) rfl)) (by decide) (by decide)) (g := (mkF m 505 #[.val (.int p1), .val (.int p2), .val (.int p3), .val (.int p4), .val (.ref mg), .val (.int kk), .val (.int c), .val (.int mu), .val (.int sel), .unset, .unset, .unset, .unset] [(.int c), (.ref x), (.ref x), (.ref mg)])) rfl (by rw [hml]; rfl) (argsL := [(.int c)]) (rest := [(.ref x), (.ref x), (.ref mg)]) (lenOf pd__C__C rfl) rfl (by show 2 * 0 + _ ≤ _; exact Nat.le_of_eq rfl) (hb hby at_505) (fun _ _ => ⟨rfl, e376, Nat.le_of_ble_eq_true rfl, Nat.le_of_ble_eq_true rfl⟩)
              dsimp only [Pt.U, Pt.locs, Pt.cells, Pt.slots] at X381 l381 y381 z381 st381 hQ381
              subst l381 y381 z381
              obtain ⟨ar381, ka381, rfl, Nq381, K381, g_ar381, le381, V_ar381⟩ := hQ381
              have N381 := Fr.app N104 Nq381
              have hs382 : ∀ sx_ ∈ ([] : List Addr), Safe Z own_EL s.vm h376 sx_ := all0
              have R382 := R379.trans (CHr.keep K381 hs382 R379.1)
              have E_x_383 := (A376.keep K381)
              have F_value_x_384 := (F_value_x.keep K381 nin0)
              have sfx : Safe Z own_EL s.vm T381.heap x := own_safe_null hZ.alike E_x_383 F_value_x_384 (hw _ (List.mem_of_getElem? (i := 21) rfl))
              have Z_385 := (Nat.le_trans Z_380 K381.1)
              have O_386 := (((O_103.keep K104 (allS g_mg all0)).keep K376 all0).keep K381 all0)
              have F_coder_x_387 := (F_coder_x.keep K381 nin0)
              obtain ⟨_, _, ⟨T388, L388, kk388, nn388⟩, -, X388, ⟨Lc388, hQ388, l388, y388, z388⟩, st388⟩ := X381.specialBack hx (y := (⟨"java/lang/String", "<init>", "([C)V"⟩ : MethodName)) rfl hown (mvT hZ (hw _ (List.mem_of_getElem? (i := 23) rfl))) (mvT hZ (hw _ (List.mem_of_getElem? (i := 24) rfl))) (mvT hZ (hw _ (List.mem_of_getElem? (i := 25) rfl))) (by decide) (StrChars.Road.backV (W := 2) hZ hws (kI := 4) (hw _ (List.mem_of_getElem? (i := 21) rfl)) (cs := (own_L1 ++ [nar .char c])) (bs := ((own_L1 ++ [nar .char c])).map (fun c => c.toInt8.toInt32)) (n := 29) g_x Z_385 E_x_383 F_value_x_384 F_coder_x_387 V_ar381 (O2.ext O_386.2) P5 (by simp [own_L0, own_L1]) rfl (by decide) (by decide) (own_app_rng own_lr1 ⟨rc.1, rc.2.1⟩) rfl (by decide) (by decide)) (g := (mkF m 508 #[.val (.int p1), .val (.int p2), .val (.int p3), .val (.int p4), .val (.ref mg), .val (.int kk), .val (.int c), .val (.int mu), .val (.int sel), .unset, .unset, .unset, .unset] [(.ref ar381), (.ref x), (.ref x), (.ref mg)])) rfl (by rw [hml]; rfl) (Steps.refl _) (a := x) (argsL := [(.ref ar381)]) (rest := [(.ref x), (.ref mg)]) (lenOf pd___C_V rfl) rfl (by show 2 * 0 + _ ≤ _; exact Nat.le_of_eq rfl) (hb hby at_508) (fun _ _ => ⟨rfl, rfl, Nat.le_of_ble_eq_true rfl, Nat.le_of_ble_eq_true rfl⟩)
              dsimp only [Pt.U, Pt.locs, Pt.cells, Pt.slots] at X388 l388 y388 z388 st388 hQ388
              subst l388 y388 z388
              obtain ⟨rfl, Nq388, K388, Eq388, Fc388, t388, kb388, g_t388, le388, nx388, Fv388, V_t388⟩ := hQ388
              have N388 := Fr.app N381 Nq388
              have hs389 : ∀ sx_ ∈ ([x] : List Addr), Safe Z own_EL s.vm T381.heap sx_ := (allS sfx all0)
              have R389 := R382.trans (CHr.keep K388 hs389 R382.1)
              have V_t388_ : Arv Z T388.heap t388 kb388 .byte (Int32.ofNat ((own_L1 ++ [nar .char c])).length) ((((own_L1 ++ [nar .char c])).map (fun c => c.toInt8.toInt32)).map Value.int) (.int (0 : Int32)) := by
                have e : ((own_L1 ++ [nar .char c])).length = 29 := by simp [own_L0, own_L1]
                rw [e]; exact V_t388
              have O_390 := (O_386.keep K388 (allS g_x all0))
              obtain ⟨r, hr1, rt⟩ := rmIA l Z a0 hw [] mg x t388 kb388 (own_L1 ++ [nar .char c]) G1 T388.heap n0 Eq388 Fv388 Fc388 V_t388_ (own_app_rng own_lr1 ⟨rc.1, rc.2.1⟩) (by simp [own_L0, own_L1, own_L2, own_L3, own_L4]) O2 P5 O_390
              obtain rfl : r = 0 := by
                rcases hr1 with ⟨-, h⟩ | ⟨h, -⟩
                · exact absurd h (own_long (by simp [own_L0, own_L1]))
                · exact h
              have E_mg_391 := (((Em104.keep K376).keep K381).keep K388)
              have HK_393 := (Nat.le_trans (Nat.le_trans (Nat.le_trans (Nat.le_trans (Nat.le_trans hk0 K101.1) K104.1) K376.1) K381.1) K388.1)
              have go394 : ∀ tg_, Steps p.tables e below (T388.setTop (mkF m 511 #[.val (.int p1), .val (.int p2), .val (.int p3), .val (.int p4), .val (.ref mg), .val (.int kk), .val (.int c), .val (.int mu), .val (.int sel), .unset, .unset, .unset, .unset] [(.ref x), (.ref mg)])) tg_ → Steps p.tables e below (s₁.setTop (entryFrame m #[(.int p1), (.int p2), (.int p3), (.int p4)] maxLocals)) tg_ := fun tg_ k => go355 tg_ (by
                  show Steps p.tables e below (T104.setTop (mkF m 468 #[.val (.int p1), .val (.int p2), .val (.int p3), .val (.int p4), .val (.ref mg), .val (.int kk), .val (.int c), .val (.int mu), .val (.int sel), .unset, .unset, .unset, .unset] [(.int (sel &&& (1 : Int32)))])) _
                  refine XS.ifYes X104.here hx rfl (pc0 := 468) (pc' := 497) rfl (hb hby at_468) rfl ((if0 _ _).trans (feq (hodd : ¬ ((sel &&& (1 : Int32)) = (0 : Int32)))).2) (by decide) (by decide) ?_
                  show Steps p.tables e below (T104.setTop (mkF m 497 #[.val (.int p1), .val (.int p2), .val (.int p3), .val (.int p4), .val (.ref mg), .val (.int kk), .val (.int c), .val (.int mu), .val (.int sel), .unset, .unset, .unset, .unset] [])) _
                  refine XS.aload X104.here hx rfl (hb hby at_497) rfl rfl ?_
                  show Steps p.tables e below (T104.setTop (mkF m 499 #[.val (.int p1), .val (.int p2), .val (.int p3), .val (.int p4), .val (.ref mg), .val (.int kk), .val (.int c), .val (.int mu), .val (.int sel), .unset, .unset, .unset, .unset] [(.ref mg)])) _
                  refine st376 _ ?_
                  show Steps p.tables e below (T376.setTop (mkF m 502 #[.val (.int p1), .val (.int p2), .val (.int p3), .val (.int p4), .val (.ref mg), .val (.int kk), .val (.int c), .val (.int mu), .val (.int sel), .unset, .unset, .unset, .unset] [(.ref x), (.ref mg)])) _
                  refine XS.dup X376.here hx rfl (hb hby at_502) rfl rfl ?_
                  show Steps p.tables e below (T376.setTop (mkF m 503 #[.val (.int p1), .val (.int p2), .val (.int p3), .val (.int p4), .val (.ref mg), .val (.int kk), .val (.int c), .val (.int mu), .val (.int sel), .unset, .unset, .unset, .unset] [(.ref x), (.ref x), (.ref mg)])) _
                  refine XS.iload X376.here hx rfl (hb hby at_503) rfl ?_
                  show Steps p.tables e below (T376.setTop (mkF m 505 #[.val (.int p1), .val (.int p2), .val (.int p3), .val (.int p4), .val (.ref mg), .val (.int kk), .val (.int c), .val (.int mu), .val (.int sel), .unset, .unset, .unset, .unset] [(.int c), (.ref x), (.ref x), (.ref mg)])) _
                  refine st381 _ ?_
                  show Steps p.tables e below (T381.setTop (mkF m 508 #[.val (.int p1), .val (.int p2), .val (.int p3), .val (.int p4), .val (.ref mg), .val (.int kk), .val (.int c), .val (.int mu), .val (.int sel), .unset, .unset, .unset, .unset] [(.ref ar381), (.ref x), (.ref x), (.ref mg)])) _
                  refine st388.trans ?_
                  exact k)
              obtain ⟨cq392, kq392, q392a, q392b, q392c⟩ := isOf hZ rfl E_mg_391
              obtain ⟨_, _, ⟨T392, L392, kk392, nn392⟩, -, Y392, hT392, gr392, ⟨Lc392, hQ392, l392, y392, z392, C392⟩, st392⟩ := X388.virtualBackS hx (y := (⟨"com/example/tramway/tramway/poa/TramwayPoaManager", "_is_a", "(Ljava/lang/String;)Z"⟩ : MethodName)) (z := (⟨"com/example/tramway/tramway/poa/TramwayPoaManager", "_is_a", "(Ljava/lang/String;)Z"⟩ : MethodName)) hown (mvT hZ (hw _ (List.mem_of_getElem? (i := 47) rfl))) (mvT hZ (hw _ (List.mem_of_getElem? (i := 48) rfl))) (notFace_of_selects (args := #[]) (mvT hZ (hw _ (List.mem_of_getElem? (i := 50) rfl)))) (mvT hZ (hw _ (List.mem_of_getElem? (i := 50) rfl))) (mvT hZ (hw _ (List.mem_of_getElem? (i := 49) rfl))) (by decide) (backOfSH (W := 0) (rt) hZ (hw _ (List.mem_of_getElem? (i := 51) rfl)) (hw _ (List.mem_of_getElem? (i := 2) rfl)) (by decide) (by decide) hEL R389.1) q392a q392c (g := (mkF m 511 #[.val (.int p1), .val (.int p2), .val (.int p3), .val (.int p4), .val (.ref mg), .val (.int kk), .val (.int c), .val (.int mu), .val (.int sel), .unset, .unset, .unset, .unset] [(.ref x), (.ref mg)])) rfl (by rw [hml]; rfl) (Steps.refl _) (argsL := [(.ref x)]) (rest := []) (lenOf pd__Ljava_lang_String__Z rfl) rfl (by show 2 * 0 + _ ≤ _; exact Nat.le_of_eq rfl) (hb hby at_511) (fun _ _ => ⟨rfl, rfl, Nat.le_of_ble_eq_true rfl, Nat.le_of_ble_eq_true rfl⟩)
              dsimp only [Pt.U, Pt.locs, Pt.cells, Pt.slots] at Y392 hT392 gr392 l392 y392 z392 C392 st392 hQ392
              subst l392 y392 z392
              obtain ⟨X392, hS392, hZ, hown⟩ := rebS hS0 HK_393 Y392 hT392 gr392 hZ hown
              have hk392 := Nat.le_refl T392.heap.size
              obtain ⟨rfl, Nq392, K392⟩ := hQ392
              have N392 := Fr.app N388 Nq392
              have R395 := R389.trans C392
              obtain ⟨fs, hr, hrun, hended, hRE⟩ := X392.leaveW hS392 hk392 (v := some (.int (1 : Int32))) (fun h => by rw [Bd.returns] at h; cases h)
              refine ⟨_, _, go394 _ ?_, hrun, hended, _, _, rfl, ?_, ?_, hRE.1, hRE.2.1, hRE.2.2.1, hRE.2.2.2.mono (by decide) (by decide)⟩
              · show Steps p.tables e below (T388.setTop (mkF m 511 #[.val (.int p1), .val (.int p2), .val (.int p3), .val (.int p4), .val (.ref mg), .val (.int kk), .val (.int c), .val (.int mu), .val (.int sel), .unset, .unset, .unset, .unset] [(.ref x), (.ref mg)])) _
                refine st392.trans ?_
                show Steps p.tables e below (T392.setTop (mkF m 514 #[.val (.int p1), .val (.int p2), .val (.int p3), .val (.int p4), .val (.ref mg), .val (.int kk), .val (.int c), .val (.int mu), .val (.int sel), .unset, .unset, .unset, .unset] [(.int (0 : Int32))])) _
                refine XS.ifNo X392.here hx rfl (hb hby at_514) rfl ((if0 _ _).trans (teq (rfl : (0 : Int32) = (0 : Int32))).2) ?_
                show Steps p.tables e below (T392.setTop (mkF m 517 #[.val (.int p1), .val (.int p2), .val (.int p3), .val (.int p4), .val (.ref mg), .val (.int kk), .val (.int c), .val (.int mu), .val (.int sel), .unset, .unset, .unset, .unset] [])) _
                refine XS.iconst X392.here hx rfl (hb hby at_517) ?_
                show Steps p.tables e below (T392.setTop (mkF m 518 #[.val (.int p1), .val (.int p2), .val (.int p3), .val (.int p4), .val (.ref mg), .val (.int kk), .val (.int c), .val (.int mu), .val (.int sel), .unset, .unset, .unset, .unset] [(.int (1 : Int32))])) _
                refine XS.goto X392.here hx rfl (pc0 := 518) (pc' := 522) rfl (hb hby at_518) (by decide) (by decide) ?_
                show Steps p.tables e below (T392.setTop (mkF m 522 #[.val (.int p1), .val (.int p2), .val (.int p3), .val (.int p4), .val (.ref mg), .val (.int kk), .val (.int c), .val (.int mu), .val (.int sel), .unset, .unset, .unset, .unset] [(.int (1 : Int32))])) _
                exact retN X392 hx (t := .boolean) Bd.returns (by simp) (hb hby at_522) hr
              · show Q0 h0 n0 _ T392.heap _
                exact ⟨rfl, N392⟩
              · show CHr Z own_EL s.vm s.heap T392.vm T392.heap
                rw [hh]
                exact R395.trans (CHv.at X392 hZ hEL R395.1)
set_option maxRecDepth 65536 in
set_option maxHeartbeats 40000000 in
theorem comes_1 {Post : Tables → Env → Array Value → State → Outcome → State → Prop} (hpost : ∀ tb e args s v u, (limb_1_1.after args s (.returned v) u = true ∧ limb_1_2.after args s (.returned v) u = true ∧ True) → ReturnedEndW s (.returned v) u (Jvm.fieldLocs frame_1_writes args s ++ Jvm.arrayLocs frame_1_arrays args s ++ Jvm.staticLocs frame_1_statics s) 32 6464 → Post tb e args s (.returned v) u) :
    ArmFor flags0 classFile x code maxLocals ret World_1 tables_1 room_1 Calls_1 rest_1 Pre_1 Post := by
  intro l hfl _ _ p e ha hc hk s m args below hf hA hF happ hP
  obtain ⟨hcalls, hrest, hpre⟩ := hP
  obtain ⟨-, -, -, hnamed, -, -, -, hat⟩ := (Spec.applies_iff hf).mp happ
  obtain ⟨hg, hn⟩ := and_e (Cond.before_iff.mp (show (Jvm.Cond.and given_1 narrow_1).before args s = true from hpre))
  obtain ⟨c1a, c1b⟩ := and_e hg
  obtain ⟨c2a, c2b⟩ := and_e c1b
  obtain ⟨c3a, c3b⟩ := and_e c2b
  obtain ⟨c4a, c4b⟩ := and_e c3b
  obtain ⟨w0, w1, w2, w3, rfl⟩ : ∃ w0 w1 w2 w3 : Value, args = #[w0, w1, w2, w3] := by
    have hs : args.size = 4 := by simpa [Cond.value, given_1] using c1a
    obtain ⟨L⟩ := args
    match L, hs with
    | [w0, w1, w2, w3], _ => exact ⟨w0, w1, w2, w3, rfl⟩
  have hw := fun d (hd : d ∈ tables_1) => atoms_spec (ws := Jvm.Cond.code x code maxLocals ret :: tables_1) hat d (List.mem_cons_of_mem _ hd)
  have hfit : Fit s := fun {y c} hc i hi => by
    obtain ⟨ha, rfl⟩ := Array.getElem?_eq_some_iff.mp hc
    have q := List.all_eq_true.mp ((Array.all_eq_true_iff_forall_mem.mp hF) _ (Array.getElem_mem ha)) i (List.mem_range.mpr hi)
    simpa [Array.getElem?_eq_getElem hi] using q
  obtain ⟨hsets, hown0⟩ := atoms_of _ (rest_1_c_eq ▸ (show rest_1_c.before _ s = true from hrest))
  have n_cs := not_v (Cond.before_iff.mp (hsets _ (List.mem_of_getElem? (i := 2) rfl)))
  obtain ⟨i_cs, e_cs⟩ := is_v (Cond.before_iff.mp (hsets _ (List.mem_of_getElem? (i := 1) rfl)))
  have S_cs : Sta s s.heap "java/lang/String" "COMPACT_STRINGS" "Z" (.int i_cs) := Sta.start e_cs (Or.inl (hsets _ (List.mem_of_getElem? (i := 0) rfl)))
  have c_cs : ¬ (i_cs = (0 : Int32)) := gotF (Cond.eq_ints e_cs (Term.int_eval (0))) n_cs
  obtain ⟨v_sf, e_sf, r_sf⟩ := isR_v (Cond.before_iff.mp (hsets _ (List.mem_of_getElem? (i := 8) rfl)))
  have S_sf : Sta s s.heap "jdk/internal/util/Preconditions" "SIOOBE_FORMATTER" "Ljava/util/function/BiFunction;" v_sf := Sta.start e_sf (Or.inl (hsets _ (List.mem_of_getElem? (i := 7) rfl)))
  obtain ⟨i0, ei0⟩ := is_v c2a
  obtain rfl : w0 = (.int i0) := Option.some.inj ei0
  obtain ⟨i1, ei1⟩ := is_v c3a
  obtain rfl : w1 = (.int i1) := Option.some.inj ei1
  obtain ⟨i2, ei2⟩ := is_v c4a
  obtain rfl : w2 = (.int i2) := Option.some.inj ei2
  obtain ⟨i3, ei3⟩ := is_v c4b
  obtain rfl : w3 = (.int i3) := Option.some.inj ei3
  obtain ⟨a_HOLDING, ea_HOLDING⟩ := exa_v hn
  have S_HOLDING : Sta s s.heap "com/example/tramway/tramway/poa/TramwayPoaManager$State" "HOLDING" "Lcom/example/tramway/tramway/poa/TramwayPoaManager$State;" (.ref a_HOLDING) := Sta.start ea_HOLDING (Or.inr ⟨(hw _ (List.mem_of_getElem? (i := 10) rfl)), (hw _ (List.mem_of_getElem? (i := 11) rfl))⟩)
  have hH : CHv s own_EL s.vm s.heap := CHv.start (own_hEL hw) (fun p hp => hcalls.1 p hp) (hsets _ (List.mem_of_getElem? (i := 2) rfl)) (hw _ (List.mem_of_getElem? (i := 36) rfl)) (hw _ (List.mem_of_getElem? (i := 21) rfl))
  obtain ⟨n, o, h1, h2, h3, _, L, rfl, ⟨rfl, N⟩, hC, hq⟩ := rm0 l s _ hw tables_1 i0 i1 i2 i3 i_cs a_HOLDING s.heap s.heap.size (Nat.le_refl _) S_cs c_cs (Old.start s) S_HOLDING p e ha hc hk s m _ below hf ((Spec.applies_iff_loose hf).mp happ).1 ⟨rfl, State.Warmed39.refl s, rfl, hH⟩ trivial
  refine ⟨n, _, h1, h2, h3, hpost _ _ _ _ _ _ ⟨Cond.after_iff.mpr rfl, Cond.after_iff.mpr (eq_i res_at (Term.int_eval (1)) rfl), trivial⟩ ⟨hq.1, hq.2.1, hq.2.2.1, (hq.2.2.2.sift fun y hy => Or.inr (N y hy)).mono (by decide) (by decide)⟩⟩
theorem main_1_1 : Claimed_1_1 := comes_1 fun _ _ _ _ _ _ h hF => ⟨h.1, hF⟩
theorem main_1_2 : Claimed_1_2 := comes_1 fun _ _ _ _ _ _ h hF => ⟨h.2.1, hF⟩
end Jvm.Pilot.@@N@@
namespace Jvm.Pilot.@@N@@
open Jvm Jvm.ClassFile Sem Op Lib Jvm.Free Jvm.Stand Jvm.Pilot.@@N@@.Jvm.D
/-! MADE BY PROGRAM (witnessworld.py) out of the Statement's table words and the real class files: 26 classes; the members and pool entries that the words name. The judged class is class 1, her method 5. -/
namespace start1
open Jvm.ClassFile
def u (s : String) : CpInfo := .utf8 (stringToUtf16 s)
/-- a pool by its gaps: so many unusable entries, then the entry; so many at the end -/
def gap : Nat → List CpInfo → List CpInfo
  | 0, r => r
  | n + 1, r => .unusable :: gap n r
def poolList (es : List (Nat × CpInfo)) (last : Nat) : List CpInfo := es.foldr (fun e r => gap e.1 (e.2 :: r)) (gap last [])
def pool (es : List (Nat × CpInfo)) (last : Nat) : Array CpInfo := ⟨poolList es last⟩
def fileOf (pool : Array CpInfo) (this : Nat) (attrs : Array Attribute := #[]) (ms : Array MethodInfo := #[]) (fl : Nat := 33) (sup : Nat := 0) (ifs : Array Nat := #[]) (fds : Array FieldInfo := #[]) : ClassFile where
  minorVersion := 0
  majorVersion := 65
  constantPool := pool
  accessFlags := fl
  thisClass := this
  superClass := sup
  interfaces := ifs
  fields := fds
  methods := ms
  attributes := attrs
def plain (name : String) (sup : Option ClassId) : Class where
  name := name
  kind := .ordinary
  loader := none
  accessFlags := 33
  super := sup
  interfaces := #[]
  cf := none
  fields := #[]
  methods := #[]
  instanceTypes := #[]
  staticTypes := #[]
  resolved := #[]
  callSites := []
  init := .initialized
  statics := none
  mirror := none

def pool0 : Array CpInfo := pool [(5, u "<init>"), (0, u "()V"), (1, .class_ 10), (1, u "java/lang/Object")] 113

def k0c0 : Code := { maxStack := 0, maxLocals := 1, code := object_method_1_code, exceptionTable := #[], attributes := #[] }
def k0m0 : Method := { name := "<init>", desc := "()V", sig := { parameters := [], returnType := none }, accessFlags := 1, code := some k0c0 }
/-- java/lang/Object -/
def k0 : Class := { plain "java/lang/Object" none with
  accessFlags := 33
  interfaces := #[]
  cf := some (fileOf pool0 8 #[] #[{ accessFlags := 1, nameIndex := 5, descriptorIndex := 6, attributes := #[] }] 33 0 #[] #[])
  fields := #[]
  methods := #[k0m0]
  instanceTypes := #[]
  staticTypes := #[]
  resolved := Array.replicate 124 none
  statics := none }

def pool1 : Array CpInfo := pool [(2, .class_ 4), (0, .nameAndType 5 6), (0, u "java/lang/Object"), (0, u "<init>"), (0, u "()V"), (0, .class_ 8), (0, u "com/example/tramway/tramway/poa/TramwayPoaManager"), (0, .methodref 7 3), (0, .integer 2147483647), (0, .methodref 12 13), (0, .class_ 14), (0, .nameAndType 15 16), (0, u "com/example/tramway/tramway/poa/TramwayPoaManagerIs_aPinLaw"), (0, u "mgr"), (0, u "()[C"), (0, .class_ 18), (0, u "java/lang/String"), (0, .methodref 17 20), (0, .nameAndType 5 21), (0, u "([C)V"), (0, .methodref 7 23), (0, .nameAndType 24 25), (0, u "_is_a"), (0, u "(Ljava/lang/String;)Z"), (0, .methodref 12 27), (0, .nameAndType 28 16), (0, u "obj"), (0, .methodref 17 30), (0, .nameAndType 31 32), (0, u "valueOf"), (0, u "(C)Ljava/lang/String;"), (0, .string 34), (0, u "IDL:omg.org/PortableServer/POA:2.3"), (0, .string 36), (0, u "IDL:omg.org/PortableServer/POAManager"), (0, .string 38), (0, u "IDL:omg.org/CORBA/Object"), (0, .methodref 12 40), (0, .nameAndType 41 42), (0, u "mgrPlus"), (0, u "(C)[C"), (0, .methodref 12 44), (0, .nameAndType 45 42), (0, u "objPlus"), (2, u "law"), (0, u "(IIII)Z")] 5

def k1m0 : Method := { name := "<init>", desc := "()V", sig := { parameters := [], returnType := none }, accessFlags := 1, code := none }
def k1c1 : Code := { maxStack := 4, maxLocals := 0, code := method_2_code, exceptionTable := #[], attributes := #[] }
def k1m1 : Method := { name := "mgr", desc := "()[C", sig := { parameters := [], returnType := some (.array .char) }, accessFlags := 10, code := some k1c1 }
def k1c2 : Code := { maxStack := 4, maxLocals := 1, code := method_3_code, exceptionTable := #[], attributes := #[] }
def k1m2 : Method := { name := "mgrPlus", desc := "(C)[C", sig := { parameters := [.char], returnType := some (.array .char) }, accessFlags := 10, code := some k1c2 }
def k1c3 : Code := { maxStack := 4, maxLocals := 0, code := method_4_code, exceptionTable := #[], attributes := #[] }
def k1m3 : Method := { name := "obj", desc := "()[C", sig := { parameters := [], returnType := some (.array .char) }, accessFlags := 10, code := some k1c3 }
def k1c4 : Code := { maxStack := 4, maxLocals := 1, code := method_5_code, exceptionTable := #[], attributes := #[] }
def k1m4 : Method := { name := "objPlus", desc := "(C)[C", sig := { parameters := [.char], returnType := some (.array .char) }, accessFlags := 10, code := some k1c4 }
def k1c5 : Code := { maxStack := 7, maxLocals := 13, code := code, exceptionTable := #[], attributes := #[] }
def k1m5 : Method := { name := "law", desc := "(IIII)Z", sig := { parameters := [.int, .int, .int, .int], returnType := some .boolean }, accessFlags := 9, code := some k1c5 }
/-- com/example/tramway/tramway/poa/TramwayPoaManagerIs_aPinLaw -/
def k1 : Class := { plain "com/example/tramway/tramway/poa/TramwayPoaManagerIs_aPinLaw" (some 0) with
  accessFlags := 49
  interfaces := #[]
  cf := some (fileOf pool1 12 #[] #[{ accessFlags := 1, nameIndex := 5, descriptorIndex := 6, attributes := #[] }, { accessFlags := 10, nameIndex := 15, descriptorIndex := 16, attributes := #[] }, { accessFlags := 10, nameIndex := 41, descriptorIndex := 42, attributes := #[] }, { accessFlags := 10, nameIndex := 28, descriptorIndex := 16, attributes := #[] }, { accessFlags := 10, nameIndex := 45, descriptorIndex := 42, attributes := #[] }, { accessFlags := 9, nameIndex := 48, descriptorIndex := 49, attributes := #[] }] 49 2 #[] #[])
  fields := #[]
  methods := #[k1m0, k1m1, k1m2, k1m3, k1m4, k1m5]
  instanceTypes := #[]
  staticTypes := #[]
  resolved := Array.replicate 55 none
  statics := none }

def pool2 : Array CpInfo := pool [(1, .class_ 2), (0, u "org/omg/PortableServer/POAManagerOperations"), (0, .class_ 4), (0, u "java/lang/Object")] 7

/-- org/omg/PortableServer/POAManagerOperations -/
def k2 : Class := { plain "org/omg/PortableServer/POAManagerOperations" (some 0) with
  accessFlags := 1537
  interfaces := #[]
  cf := some (fileOf pool2 1 #[] #[] 1537 3 #[] #[])
  fields := #[]
  methods := #[]
  instanceTypes := #[]
  staticTypes := #[]
  resolved := Array.replicate 12 none
  statics := none }

def pool3 : Array CpInfo := pool [(1, .class_ 2), (0, u "org/omg/CORBA/Object"), (0, .class_ 4), (0, u "java/lang/Object")] 8

/-- org/omg/CORBA/Object -/
def k3 : Class := { plain "org/omg/CORBA/Object" (some 0) with
  accessFlags := 1537
  interfaces := #[]
  cf := some (fileOf pool3 1 #[] #[] 1537 3 #[] #[])
  fields := #[]
  methods := #[]
  instanceTypes := #[]
  staticTypes := #[]
  resolved := Array.replicate 13 none
  statics := none }

def pool4 : Array CpInfo := pool [(1, .class_ 2), (0, u "java/io/Serializable"), (0, .class_ 4), (0, u "java/lang/Object")] 2

/-- java/io/Serializable -/
def k4 : Class := { plain "java/io/Serializable" (some 0) with
  accessFlags := 1537
  interfaces := #[]
  cf := some (fileOf pool4 1 #[] #[] 1537 3 #[] #[])
  fields := #[]
  methods := #[]
  instanceTypes := #[]
  staticTypes := #[]
  resolved := Array.replicate 7 none
  statics := none }

def pool5 : Array CpInfo := pool [(1, .class_ 2), (0, u "org/omg/CORBA/portable/IDLEntity"), (0, .class_ 4), (0, u "java/lang/Object"), (0, .class_ 6), (0, u "java/io/Serializable")] 2

/-- org/omg/CORBA/portable/IDLEntity -/
def k5 : Class := { plain "org/omg/CORBA/portable/IDLEntity" (some 0) with
  accessFlags := 1537
  interfaces := #[4]
  cf := some (fileOf pool5 1 #[] #[] 1537 3 #[5] #[])
  fields := #[]
  methods := #[]
  instanceTypes := #[]
  staticTypes := #[]
  resolved := Array.replicate 9 none
  statics := none }

def pool6 : Array CpInfo := pool [(1, .class_ 2), (0, u "org/omg/PortableServer/POAManager"), (0, .class_ 4), (0, u "java/lang/Object"), (0, .class_ 6), (0, u "org/omg/PortableServer/POAManagerOperations"), (0, .class_ 8), (0, u "org/omg/CORBA/Object"), (0, .class_ 10), (0, u "org/omg/CORBA/portable/IDLEntity")] 2

/-- org/omg/PortableServer/POAManager -/
def k6 : Class := { plain "org/omg/PortableServer/POAManager" (some 0) with
  accessFlags := 1537
  interfaces := #[2, 3, 5]
  cf := some (fileOf pool6 1 #[] #[] 1537 3 #[5, 7, 9] #[])
  fields := #[]
  methods := #[]
  instanceTypes := #[]
  staticTypes := #[]
  resolved := Array.replicate 13 none
  statics := none }

def pool7 : Array CpInfo := pool [(1, .methodref 2 3), (0, .class_ 4), (0, .nameAndType 5 6), (0, u "java/lang/Object"), (0, u "<init>"), (0, u "()V"), (0, .fieldref 8 9), (0, .class_ 10), (0, .nameAndType 11 12), (0, u "com/example/tramway/tramway/poa/TramwayPoaManager$State"), (0, u "HOLDING"), (0, u "Lcom/example/tramway/tramway/poa/TramwayPoaManager$State;"), (0, .fieldref 14 15), (0, .class_ 16), (0, .nameAndType 17 12), (0, u "com/example/tramway/tramway/poa/TramwayPoaManager"), (0, u "m_eState"), (48, .string 67), (0, u "IDL:omg.org/PortableServer/POAManager:2.3"), (0, .methodref 69 70), (0, .class_ 71), (0, .nameAndType 72 73), (0, u "java/lang/String"), (0, u "equals"), (0, u "(Ljava/lang/Object;)Z"), (2, .string 77), (0, u "IDL:omg.org/CORBA/Object:1.0"), (0, .class_ 79), (0, u "org/omg/PortableServer/POAManager"), (0, u "serialVersionUID"), (0, u "J"), (3, u "ID"), (0, u "Ljava/lang/String;"), (7, u "_is_a"), (0, u "(Ljava/lang/String;)Z")] 9

def k7c0 : Code := { maxStack := 2, maxLocals := 1, code := prog_144_method_1_code, exceptionTable := #[], attributes := #[] }
def k7m0 : Method := { name := "<init>", desc := "()V", sig := { parameters := [], returnType := none }, accessFlags := 0, code := some k7c0 }
def k7c1 : Code := { maxStack := 2, maxLocals := 2, code := prog_144_method_5_code, exceptionTable := #[], attributes := #[] }
def k7m1 : Method := { name := "_is_a", desc := "(Ljava/lang/String;)Z", sig := { parameters := [(.object "java/lang/String")], returnType := some .boolean }, accessFlags := 1, code := some k7c1 }
/-- com/example/tramway/tramway/poa/TramwayPoaManager -/
def k7 : Class := { plain "com/example/tramway/tramway/poa/TramwayPoaManager" (some 0) with
  accessFlags := 49
  interfaces := #[6]
  cf := some (fileOf pool7 14 #[.nestMembers #[8]] #[{ accessFlags := 0, nameIndex := 5, descriptorIndex := 6, attributes := #[] }, { accessFlags := 1, nameIndex := 94, descriptorIndex := 95, attributes := #[] }] 49 2 #[78] #[{ accessFlags := 26, nameIndex := 80, descriptorIndex := 81, attributes := #[] }, { accessFlags := 26, nameIndex := 85, descriptorIndex := 86, attributes := #[] }, { accessFlags := 2, nameIndex := 17, descriptorIndex := 12, attributes := #[] }])
  fields := #[{ name := "serialVersionUID", type := .long, accessFlags := 26, slot := 0, constantValue := 0 }, { name := "ID", type := (.object "java/lang/String"), accessFlags := 26, slot := 1, constantValue := 0 }, { name := "m_eState", type := (.object "com/example/tramway/tramway/poa/TramwayPoaManager$State"), accessFlags := 2, slot := 0, constantValue := 0 }]
  methods := #[k7m0, k7m1]
  instanceTypes := #[(.object "com/example/tramway/tramway/poa/TramwayPoaManager$State")]
  staticTypes := #[.long, (.object "java/lang/String")]
  resolved := Array.replicate 105 none
  statics := none }

def pool8 : Array CpInfo := pool [(1, .class_ 2), (0, u "java/lang/constant/Constable"), (0, .class_ 4), (0, u "java/lang/Object")] 6

/-- java/lang/constant/Constable -/
def k8 : Class := { plain "java/lang/constant/Constable" (some 0) with
  accessFlags := 1537
  interfaces := #[]
  cf := some (fileOf pool8 1 #[] #[] 1537 3 #[] #[])
  fields := #[]
  methods := #[]
  instanceTypes := #[]
  staticTypes := #[]
  resolved := Array.replicate 11 none
  statics := none }

def pool9 : Array CpInfo := pool [(1, .class_ 2), (0, u "java/lang/Comparable"), (0, .class_ 4), (0, u "java/lang/Object")] 7

/-- java/lang/Comparable -/
def k9 : Class := { plain "java/lang/Comparable" (some 0) with
  accessFlags := 1537
  interfaces := #[]
  cf := some (fileOf pool9 1 #[] #[] 1537 3 #[] #[])
  fields := #[]
  methods := #[]
  instanceTypes := #[]
  staticTypes := #[]
  resolved := Array.replicate 12 none
  statics := none }

def pool10 : Array CpInfo := pool [(2, .class_ 4), (1, u "java/lang/Enum"), (0, u "name"), (0, u "Ljava/lang/String;"), (2, u "ordinal"), (0, u "I"), (1, .class_ 14), (1, u "java/lang/Object"), (4, u "hash"), (86, .class_ 108), (1, u "java/lang/Enum$EnumDesc"), (2, .class_ 112), (0, u "java/lang/constant/Constable"), (0, .class_ 114), (0, u "java/lang/Comparable"), (0, .class_ 116), (0, u "java/io/Serializable")] 87

/-- java/lang/Enum -/
def k10 : Class := { plain "java/lang/Enum" (some 0) with
  accessFlags := 1057
  interfaces := #[8, 9, 4]
  cf := some (fileOf pool10 2 #[.nestMembers #[106]] #[] 1057 12 #[111, 113, 115] #[{ accessFlags := 18, nameIndex := 5, descriptorIndex := 6, attributes := #[] }, { accessFlags := 18, nameIndex := 9, descriptorIndex := 10, attributes := #[] }, { accessFlags := 2, nameIndex := 19, descriptorIndex := 10, attributes := #[] }])
  fields := #[{ name := "name", type := (.object "java/lang/String"), accessFlags := 18, slot := 0, constantValue := 0 }, { name := "ordinal", type := .int, accessFlags := 18, slot := 1, constantValue := 0 }, { name := "hash", type := .int, accessFlags := 2, slot := 2, constantValue := 0 }]
  methods := #[]
  instanceTypes := #[(.object "java/lang/String"), .int, .int]
  staticTypes := #[]
  resolved := Array.replicate 204 none
  statics := none }

def pool11 : Array CpInfo := pool [(1, .class_ 2), (0, u "com/example/tramway/tramway/poa/TramwayPoaManager$State"), (2, u "HOLDING"), (0, u "Lcom/example/tramway/tramway/poa/TramwayPoaManager$State;"), (2, u "ACTIVE"), (2, u "INACTIVE"), (2, u "$VALUES"), (0, u "[Lcom/example/tramway/tramway/poa/TramwayPoaManager$State;"), (6, .class_ 25), (1, u "java/lang/Enum"), (26, .class_ 53), (0, u "com/example/tramway/tramway/poa/TramwayPoaManager")] 2

/-- com/example/tramway/tramway/poa/TramwayPoaManager$State -/
def k11 : Class := { plain "com/example/tramway/tramway/poa/TramwayPoaManager$State" (some 10) with
  accessFlags := 16432
  interfaces := #[]
  cf := some (fileOf pool11 1 #[.nestHost 52] #[] 16432 23 #[] #[{ accessFlags := 16409, nameIndex := 5, descriptorIndex := 6, attributes := #[] }, { accessFlags := 16409, nameIndex := 9, descriptorIndex := 6, attributes := #[] }, { accessFlags := 16409, nameIndex := 12, descriptorIndex := 6, attributes := #[] }, { accessFlags := 4122, nameIndex := 15, descriptorIndex := 16, attributes := #[] }])
  fields := #[{ name := "HOLDING", type := (.object "com/example/tramway/tramway/poa/TramwayPoaManager$State"), accessFlags := 16409, slot := 0, constantValue := 0 }, { name := "ACTIVE", type := (.object "com/example/tramway/tramway/poa/TramwayPoaManager$State"), accessFlags := 16409, slot := 1, constantValue := 0 }, { name := "INACTIVE", type := (.object "com/example/tramway/tramway/poa/TramwayPoaManager$State"), accessFlags := 16409, slot := 2, constantValue := 0 }, { name := "$VALUES", type := (.array (.object "com/example/tramway/tramway/poa/TramwayPoaManager$State")), accessFlags := 4122, slot := 3, constantValue := 0 }]
  methods := #[]
  instanceTypes := #[(.object "java/lang/String"), .int, .int]
  staticTypes := #[(.object "com/example/tramway/tramway/poa/TramwayPoaManager$State"), (.object "com/example/tramway/tramway/poa/TramwayPoaManager$State"), (.object "com/example/tramway/tramway/poa/TramwayPoaManager$State"), (.array (.object "com/example/tramway/tramway/poa/TramwayPoaManager$State"))]
  resolved := Array.replicate 56 none
  statics := some 0 }

def pool12 : Array CpInfo := pool [(2, .class_ 4), (1, u "java/lang/CharSequence"), (42, .class_ 48), (0, u "java/lang/CharSequence$1CodePointIterator"), (10, .class_ 60), (0, u "java/lang/CharSequence$1CharIterator"), (5, .class_ 67), (0, u "java/lang/Object")] 63

/-- java/lang/CharSequence -/
def k12 : Class := { plain "java/lang/CharSequence" (some 0) with
  accessFlags := 1537
  interfaces := #[]
  cf := some (fileOf pool12 2 #[.nestMembers #[47, 59]] #[] 1537 66 #[] #[])
  fields := #[]
  methods := #[]
  instanceTypes := #[]
  staticTypes := #[]
  resolved := Array.replicate 131 none
  statics := none }

def pool13 : Array CpInfo := pool [(1, .class_ 2), (0, u "java/lang/constant/ConstantDesc"), (0, .class_ 4), (0, u "java/lang/Object")] 32

/-- java/lang/constant/ConstantDesc -/
def k13 : Class := { plain "java/lang/constant/ConstantDesc" (some 0) with
  accessFlags := 1537
  interfaces := #[]
  cf := some (fileOf pool13 1 #[] #[] 1537 3 #[] #[])
  fields := #[]
  methods := #[]
  instanceTypes := #[]
  staticTypes := #[]
  resolved := Array.replicate 37 none
  statics := none }

def pool14 : Array CpInfo := pool [(1, .methodref 2 3), (0, .class_ 4), (0, .nameAndType 5 6), (0, u "java/lang/Object"), (0, u "<init>"), (0, u "()V"), (0, .string 8), (0, u ""), (0, .fieldref 10 11), (0, .class_ 12), (0, .nameAndType 13 14), (0, u "java/lang/String"), (0, u "value"), (0, u "[B"), (0, .fieldref 10 16), (0, .nameAndType 17 18), (0, u "coder"), (0, u "B"), (2, u "hash"), (0, u "I"), (2, u "hashIsZero"), (0, u "Z"), (0, .methodref 10 28), (0, .nameAndType 5 29), (0, u "([CIILjava/lang/Void;)V"), (8, .fieldref 10 39), (0, .nameAndType 40 26), (0, u "COMPACT_STRINGS"), (1, .class_ 44), (1, u "java/lang/StringUTF16"), (0, u "compress"), (1, .methodref 42 48), (0, .nameAndType 49 50), (0, u "coderFromArrayLen"), (0, u "([BI)B"), (2, u "toBytes"), (53, .class_ 109), (1, u "java/lang/StringLatin1"), (67, .methodref 42 178), (0, .nameAndType 45 179), (0, u "([CII)[B"), (29, .methodref 10 210), (0, .nameAndType 5 211), (0, u "([BB)V"), (157, u "(C)Z"), (171, .methodref 107 542), (0, .nameAndType 543 544), (0, u "equals"), (0, u "([B[B)Z"), (28, u "(Ljava/lang/Object;)Z"), (1, .class_ 576), (0, u "java/lang/CharSequence"), (22, u "CASE_INSENSITIVE_ORDER"), (0, u "Ljava/util/Comparator;"), (181, u "valueOf"), (0, u "(C)Ljava/lang/String;"), (226, u "([C)V"), (4, .methodref 107 1016), (0, .nameAndType 1017 369), (0, u "canEncode"), (0, .methodref 107 1019), (0, .nameAndType 53 1020), (0, u "(C)[B"), (80, u "serialPersistentFields"), (0, u "[Ljava/io/ObjectStreamField;"), (0, .class_ 1104), (0, u "java/lang/String$CaseInsensitiveComparator"), (1, .class_ 1107), (0, u "java/io/Serializable"), (0, .class_ 1109), (0, u "java/lang/Comparable"), (0, .class_ 1111), (0, u "java/lang/constant/Constable"), (0, .class_ 1113), (0, u "java/lang/constant/ConstantDesc"), (2, u "serialVersionUID"), (0, u "J"), (3, u "REPL"), (0, u "C"), (2, u "LATIN1"), (1, u "UTF16")] 323

def k14m0 : Method := { name := "<init>", desc := "()V", sig := { parameters := [], returnType := none }, accessFlags := 1, code := none }
def k14c1 : Code := { maxStack := 5, maxLocals := 2, code := jdk_42_method_3_code, exceptionTable := #[], attributes := #[] }
def k14m1 : Method := { name := "<init>", desc := "([C)V", sig := { parameters := [(.array .char)], returnType := none }, accessFlags := 1, code := some k14c1 }
def k14c2 : Code := { maxStack := 2, maxLocals := 3, code := jdk_42_method_66_code, exceptionTable := #[], attributes := #[] }
def k14m2 : Method := { name := "equals", desc := "(Ljava/lang/Object;)Z", sig := { parameters := [(.object "java/lang/Object")], returnType := some .boolean }, accessFlags := 1, code := some k14c2 }
def k14c3 : Code := { maxStack := 4, maxLocals := 1, code := jdk_42_method_139_code, exceptionTable := #[], attributes := #[] }
def k14m3 : Method := { name := "valueOf", desc := "(C)Ljava/lang/String;", sig := { parameters := [.char], returnType := some (.object "java/lang/String") }, accessFlags := 9, code := some k14c3 }
def k14c4 : Code := { maxStack := 4, maxLocals := 6, code := jdk_42_method_149_code, exceptionTable := #[], attributes := #[] }
def k14m4 : Method := { name := "<init>", desc := "([CIILjava/lang/Void;)V", sig := { parameters := [(.array .char), .int, .int, (.object "java/lang/Void")], returnType := none }, accessFlags := 2, code := some k14c4 }
def k14c5 : Code := { maxStack := 2, maxLocals := 3, code := jdk_42_method_151_code, exceptionTable := #[], attributes := #[] }
def k14m5 : Method := { name := "<init>", desc := "([BB)V", sig := { parameters := [(.array .byte), .byte], returnType := none }, accessFlags := 0, code := some k14c5 }
/-- java/lang/String -/
def k14 : Class := { plain "java/lang/String" (some 0) with
  accessFlags := 49
  interfaces := #[4, 9, 12, 8, 13]
  cf := some (fileOf pool14 10 #[.nestMembers #[1103]] #[{ accessFlags := 1, nameIndex := 5, descriptorIndex := 6, attributes := #[] }, { accessFlags := 1, nameIndex := 5, descriptorIndex := 1010, attributes := #[] }, { accessFlags := 1, nameIndex := 543, descriptorIndex := 573, attributes := #[] }, { accessFlags := 9, nameIndex := 782, descriptorIndex := 783, attributes := #[] }, { accessFlags := 2, nameIndex := 5, descriptorIndex := 29, attributes := #[] }, { accessFlags := 0, nameIndex := 5, descriptorIndex := 211, attributes := #[] }] 49 2 #[1106, 1108, 575, 1110, 1112] #[{ accessFlags := 18, nameIndex := 13, descriptorIndex := 14, attributes := #[] }, { accessFlags := 18, nameIndex := 17, descriptorIndex := 18, attributes := #[] }, { accessFlags := 2, nameIndex := 21, descriptorIndex := 22, attributes := #[] }, { accessFlags := 2, nameIndex := 25, descriptorIndex := 26, attributes := #[] }, { accessFlags := 26, nameIndex := 1116, descriptorIndex := 1117, attributes := #[] }, { accessFlags := 24, nameIndex := 40, descriptorIndex := 26, attributes := #[] }, { accessFlags := 26, nameIndex := 1101, descriptorIndex := 1102, attributes := #[] }, { accessFlags := 26, nameIndex := 1121, descriptorIndex := 1122, attributes := #[] }, { accessFlags := 25, nameIndex := 599, descriptorIndex := 600, attributes := #[] }, { accessFlags := 24, nameIndex := 1125, descriptorIndex := 18, attributes := #[] }, { accessFlags := 24, nameIndex := 1127, descriptorIndex := 18, attributes := #[] }])
  fields := #[{ name := "value", type := (.array .byte), accessFlags := 18, slot := 0, constantValue := 0 }, { name := "coder", type := .byte, accessFlags := 18, slot := 1, constantValue := 0 }, { name := "hash", type := .int, accessFlags := 2, slot := 2, constantValue := 0 }, { name := "hashIsZero", type := .boolean, accessFlags := 2, slot := 3, constantValue := 0 }, { name := "serialVersionUID", type := .long, accessFlags := 26, slot := 0, constantValue := 0 }, { name := "COMPACT_STRINGS", type := .boolean, accessFlags := 24, slot := 1, constantValue := 0 }, { name := "serialPersistentFields", type := (.array (.object "java/io/ObjectStreamField")), accessFlags := 26, slot := 2, constantValue := 0 }, { name := "REPL", type := .char, accessFlags := 26, slot := 3, constantValue := 0 }, { name := "CASE_INSENSITIVE_ORDER", type := (.object "java/util/Comparator"), accessFlags := 25, slot := 4, constantValue := 0 }, { name := "LATIN1", type := .byte, accessFlags := 24, slot := 5, constantValue := 0 }, { name := "UTF16", type := .byte, accessFlags := 24, slot := 6, constantValue := 0 }]
  methods := #[k14m0, k14m1, k14m2, k14m3, k14m4, k14m5]
  instanceTypes := #[(.array .byte), .byte, .int, .boolean]
  staticTypes := #[.long, .boolean, (.array (.object "java/io/ObjectStreamField")), .char, (.object "java/util/Comparator"), .byte, .byte]
  resolved := Array.replicate 1451 none
  statics := some 1 }

def pool15 : Array CpInfo := pool [(6, .class_ 8), (1, u "java/lang/Object"), (0, u "<init>"), (0, u "()V"), (1, .class_ 14), (1, u "java/lang/StringUTF16"), (31, u "$assertionsDisabled"), (0, u "Z"), (13, u "HI_BYTE_SHIFT"), (0, u "I"), (2, u "LO_BYTE_SHIFT"), (49, .methodref 12 116), (0, .nameAndType 117 118), (0, u "compress"), (0, u "([CI[BII)I"), (3, u "([CII)[B"), (138, u "coderFromArrayLen"), (0, u "([BI)B"), (106, .class_ 371), (1, u "java/lang/StringUTF16$LinesSpliterator"), (58, u "MAX_LENGTH"), (196, .class_ 628), (0, u "java/lang/StringUTF16$CodePointsSpliterator"), (0, .class_ 630), (0, u "java/lang/StringUTF16$CharsSpliterator")] 4

def k15m0 : Method := { name := "<init>", desc := "()V", sig := { parameters := [], returnType := none }, accessFlags := 0, code := none }
def k15c1 : Code := { maxStack := 2, maxLocals := 2, code := jdk_52_method_15_code, exceptionTable := #[], attributes := #[] }
def k15m1 : Method := { name := "coderFromArrayLen", desc := "([BI)B", sig := { parameters := [(.array .byte), .int], returnType := some .byte }, accessFlags := 8, code := some k15c1 }
def k15c2 : Code := { maxStack := 5, maxLocals := 6, code := jdk_52_method_16_code, exceptionTable := #[], attributes := #[] }
def k15m2 : Method := { name := "compress", desc := "([CII)[B", sig := { parameters := [(.array .char), .int, .int], returnType := some (.array .byte) }, accessFlags := 9, code := some k15c2 }
def k15c3 : Code := { maxStack := 3, maxLocals := 7, code := jdk_52_method_21_code, exceptionTable := #[], attributes := #[] }
def k15m3 : Method := { name := "compress", desc := "([CI[BII)I", sig := { parameters := [(.array .char), .int, (.array .byte), .int, .int], returnType := some .int }, accessFlags := 9, code := some k15c3 }
/-- java/lang/StringUTF16 -/
def k15 : Class := { plain "java/lang/StringUTF16" (some 0) with
  accessFlags := 48
  interfaces := #[]
  cf := some (fileOf pool15 12 #[.nestMembers #[627, 629, 369]] #[{ accessFlags := 0, nameIndex := 9, descriptorIndex := 10, attributes := #[] }, { accessFlags := 8, nameIndex := 261, descriptorIndex := 262, attributes := #[] }, { accessFlags := 9, nameIndex := 117, descriptorIndex := 122, attributes := #[] }, { accessFlags := 9, nameIndex := 117, descriptorIndex := 118, attributes := #[] }] 48 6 #[] #[{ accessFlags := 26, nameIndex := 61, descriptorIndex := 62, attributes := #[] }, { accessFlags := 26, nameIndex := 65, descriptorIndex := 62, attributes := #[] }, { accessFlags := 24, nameIndex := 430, descriptorIndex := 62, attributes := #[] }, { accessFlags := 4120, nameIndex := 46, descriptorIndex := 47, attributes := #[] }])
  fields := #[{ name := "HI_BYTE_SHIFT", type := .int, accessFlags := 26, slot := 0, constantValue := 0 }, { name := "LO_BYTE_SHIFT", type := .int, accessFlags := 26, slot := 1, constantValue := 0 }, { name := "MAX_LENGTH", type := .int, accessFlags := 24, slot := 2, constantValue := 0 }, { name := "$assertionsDisabled", type := .boolean, accessFlags := 4120, slot := 3, constantValue := 0 }]
  methods := #[k15m0, k15m1, k15m2, k15m3]
  instanceTypes := #[]
  staticTypes := #[.int, .int, .int, .boolean]
  resolved := Array.replicate 635 none
  statics := none }

def pool16 : Array CpInfo := pool [(4, .class_ 6), (1, u "java/lang/Object"), (0, u "<init>"), (0, u "()V"), (5, .class_ 16), (1, u "java/lang/StringLatin1"), (73, u "canEncode"), (14, u "(C)Z"), (15, u "$assertionsDisabled"), (0, u "Z"), (98, .class_ 223), (1, u "java/lang/StringLatin1$LinesSpliterator"), (57, u "equals"), (0, u "([B[B)Z"), (97, u "toBytes"), (1, u "(C)[B"), (7, .class_ 391), (0, u "java/lang/StringLatin1$CharsSpliterator")] 3

def k16m0 : Method := { name := "<init>", desc := "()V", sig := { parameters := [], returnType := none }, accessFlags := 0, code := none }
def k16c1 : Code := { maxStack := 2, maxLocals := 1, code := jdk_43_method_3_code, exceptionTable := #[], attributes := #[] }
def k16m1 : Method := { name := "canEncode", desc := "(C)Z", sig := { parameters := [.char], returnType := some .boolean }, accessFlags := 9, code := some k16c1 }
def k16c2 : Code := { maxStack := 3, maxLocals := 3, code := jdk_43_method_13_code, exceptionTable := #[], attributes := #[] }
def k16m2 : Method := { name := "equals", desc := "([B[B)Z", sig := { parameters := [(.array .byte), (.array .byte)], returnType := some .boolean }, accessFlags := 9, code := some k16c2 }
def k16c3 : Code := { maxStack := 4, maxLocals := 1, code := jdk_43_method_46_code, exceptionTable := #[], attributes := #[] }
def k16m3 : Method := { name := "toBytes", desc := "(C)[B", sig := { parameters := [.char], returnType := some (.array .byte) }, accessFlags := 9, code := some k16c3 }
/-- java/lang/StringLatin1 -/
def k16 : Class := { plain "java/lang/StringLatin1" (some 0) with
  accessFlags := 48
  interfaces := #[]
  cf := some (fileOf pool16 14 #[.nestMembers #[390, 221]] #[{ accessFlags := 0, nameIndex := 7, descriptorIndex := 8, attributes := #[] }, { accessFlags := 9, nameIndex := 90, descriptorIndex := 105, attributes := #[] }, { accessFlags := 9, nameIndex := 281, descriptorIndex := 282, attributes := #[] }, { accessFlags := 9, nameIndex := 380, descriptorIndex := 382, attributes := #[] }] 48 4 #[] #[{ accessFlags := 4120, nameIndex := 121, descriptorIndex := 122, attributes := #[] }])
  fields := #[{ name := "$assertionsDisabled", type := .boolean, accessFlags := 4120, slot := 0, constantValue := 0 }]
  methods := #[k16m0, k16m1, k16m2, k16m3]
  instanceTypes := #[]
  staticTypes := #[.boolean]
  resolved := Array.replicate 395 none
  statics := none }

def pool17 : Array CpInfo := pool [(2, .class_ 4), (1, u "java/lang/Object"), (0, u "<init>"), (0, u "()V"), (17, .class_ 26), (1, u "jdk/internal/util/Preconditions"), (28, .class_ 56), (0, u "jdk/internal/util/Preconditions$4"), (57, .class_ 115), (0, u "jdk/internal/util/Preconditions$1"), (7, u "SIOOBE_FORMATTER"), (0, u "Ljava/util/function/BiFunction;"), (0, .class_ 126), (0, u "jdk/internal/util/Preconditions$2"), (3, u "AIOOBE_FORMATTER"), (0, .class_ 132), (0, u "jdk/internal/util/Preconditions$3"), (3, u "IOOBE_FORMATTER")] 57

def k17m0 : Method := { name := "<init>", desc := "()V", sig := { parameters := [], returnType := none }, accessFlags := 1, code := none }
/-- jdk/internal/util/Preconditions -/
def k17 : Class := { plain "jdk/internal/util/Preconditions" (some 0) with
  accessFlags := 33
  interfaces := #[]
  cf := some (fileOf pool17 24 #[.nestMembers #[55, 131, 125, 114]] #[{ accessFlags := 1, nameIndex := 5, descriptorIndex := 6, attributes := #[] }] 33 2 #[] #[{ accessFlags := 25, nameIndex := 123, descriptorIndex := 124, attributes := #[] }, { accessFlags := 25, nameIndex := 130, descriptorIndex := 124, attributes := #[] }, { accessFlags := 25, nameIndex := 136, descriptorIndex := 124, attributes := #[] }])
  fields := #[{ name := "SIOOBE_FORMATTER", type := (.object "java/util/function/BiFunction"), accessFlags := 25, slot := 0, constantValue := 0 }, { name := "AIOOBE_FORMATTER", type := (.object "java/util/function/BiFunction"), accessFlags := 25, slot := 1, constantValue := 0 }, { name := "IOOBE_FORMATTER", type := (.object "java/util/function/BiFunction"), accessFlags := 25, slot := 2, constantValue := 0 }]
  methods := #[k17m0]
  instanceTypes := #[]
  staticTypes := #[(.object "java/util/function/BiFunction"), (.object "java/util/function/BiFunction"), (.object "java/util/function/BiFunction")]
  resolved := Array.replicate 194 none
  statics := some 2 }

def pool18 : Array CpInfo := pool [(9, u "<init>"), (6, .class_ 18), (1, u "java/lang/Object"), (0, u "()V"), (1, .class_ 23), (1, u "jdk/internal/util/ArraysSupport"), (0, u "LOG2_ARRAY_LONG_INDEX_SCALE"), (0, u "I"), (2, u "U"), (0, u "Ljdk/internal/misc/Unsafe;"), (8, u "BIG_ENDIAN"), (0, u "Z"), (8, u "LOG2_BYTE_BIT_SIZE"), (4, u "LOG2_ARRAY_INT_INDEX_SCALE"), (54, u "JLA"), (0, u "Ljdk/internal/access/JavaLangAccess;"), (11, u "LOG2_ARRAY_BOOLEAN_INDEX_SCALE"), (9, u "LOG2_ARRAY_BYTE_INDEX_SCALE"), (5, u "LOG2_ARRAY_CHAR_INDEX_SCALE"), (5, u "LOG2_ARRAY_SHORT_INDEX_SCALE"), (18, u "LOG2_ARRAY_FLOAT_INDEX_SCALE"), (24, u "LOG2_ARRAY_DOUBLE_INDEX_SCALE"), (89, u "T_BOOLEAN"), (2, u "T_CHAR"), (1, u "T_FLOAT"), (1, u "T_DOUBLE"), (1, u "T_BYTE"), (1, u "T_SHORT"), (1, u "T_INT"), (1, u "T_LONG"), (1, u "SOFT_MAX_ARRAY_LENGTH")] 83

def k18m0 : Method := { name := "<init>", desc := "()V", sig := { parameters := [], returnType := none }, accessFlags := 2, code := none }
/-- jdk/internal/util/ArraysSupport -/
def k18 : Class := { plain "jdk/internal/util/ArraysSupport" (some 0) with
  accessFlags := 33
  interfaces := #[]
  cf := some (fileOf pool18 21 #[] #[{ accessFlags := 2, nameIndex := 9, descriptorIndex := 19, attributes := #[] }] 33 16 #[] #[{ accessFlags := 24, nameIndex := 28, descriptorIndex := 29, attributes := #[] }, { accessFlags := 26, nameIndex := 38, descriptorIndex := 39, attributes := #[] }, { accessFlags := 25, nameIndex := 121, descriptorIndex := 25, attributes := #[] }, { accessFlags := 25, nameIndex := 131, descriptorIndex := 25, attributes := #[] }, { accessFlags := 25, nameIndex := 137, descriptorIndex := 25, attributes := #[] }, { accessFlags := 25, nameIndex := 143, descriptorIndex := 25, attributes := #[] }, { accessFlags := 25, nameIndex := 53, descriptorIndex := 25, attributes := #[] }, { accessFlags := 25, nameIndex := 24, descriptorIndex := 25, attributes := #[] }, { accessFlags := 25, nameIndex := 162, descriptorIndex := 25, attributes := #[] }, { accessFlags := 25, nameIndex := 187, descriptorIndex := 25, attributes := #[] }, { accessFlags := 26, nameIndex := 48, descriptorIndex := 25, attributes := #[] }, { accessFlags := 25, nameIndex := 277, descriptorIndex := 25, attributes := #[] }, { accessFlags := 25, nameIndex := 280, descriptorIndex := 25, attributes := #[] }, { accessFlags := 25, nameIndex := 282, descriptorIndex := 25, attributes := #[] }, { accessFlags := 25, nameIndex := 284, descriptorIndex := 25, attributes := #[] }, { accessFlags := 25, nameIndex := 286, descriptorIndex := 25, attributes := #[] }, { accessFlags := 25, nameIndex := 288, descriptorIndex := 25, attributes := #[] }, { accessFlags := 25, nameIndex := 290, descriptorIndex := 25, attributes := #[] }, { accessFlags := 25, nameIndex := 292, descriptorIndex := 25, attributes := #[] }, { accessFlags := 26, nameIndex := 108, descriptorIndex := 109, attributes := #[] }, { accessFlags := 25, nameIndex := 294, descriptorIndex := 25, attributes := #[] }])
  fields := #[{ name := "U", type := (.object "jdk/internal/misc/Unsafe"), accessFlags := 24, slot := 0, constantValue := 0 }, { name := "BIG_ENDIAN", type := .boolean, accessFlags := 26, slot := 1, constantValue := 0 }, { name := "LOG2_ARRAY_BOOLEAN_INDEX_SCALE", type := .int, accessFlags := 25, slot := 2, constantValue := 0 }, { name := "LOG2_ARRAY_BYTE_INDEX_SCALE", type := .int, accessFlags := 25, slot := 3, constantValue := 0 }, { name := "LOG2_ARRAY_CHAR_INDEX_SCALE", type := .int, accessFlags := 25, slot := 4, constantValue := 0 }, { name := "LOG2_ARRAY_SHORT_INDEX_SCALE", type := .int, accessFlags := 25, slot := 5, constantValue := 0 }, { name := "LOG2_ARRAY_INT_INDEX_SCALE", type := .int, accessFlags := 25, slot := 6, constantValue := 0 }, { name := "LOG2_ARRAY_LONG_INDEX_SCALE", type := .int, accessFlags := 25, slot := 7, constantValue := 0 }, { name := "LOG2_ARRAY_FLOAT_INDEX_SCALE", type := .int, accessFlags := 25, slot := 8, constantValue := 0 }, { name := "LOG2_ARRAY_DOUBLE_INDEX_SCALE", type := .int, accessFlags := 25, slot := 9, constantValue := 0 }, { name := "LOG2_BYTE_BIT_SIZE", type := .int, accessFlags := 26, slot := 10, constantValue := 0 }, { name := "T_BOOLEAN", type := .int, accessFlags := 25, slot := 11, constantValue := 0 }, { name := "T_CHAR", type := .int, accessFlags := 25, slot := 12, constantValue := 0 }, { name := "T_FLOAT", type := .int, accessFlags := 25, slot := 13, constantValue := 0 }, { name := "T_DOUBLE", type := .int, accessFlags := 25, slot := 14, constantValue := 0 }, { name := "T_BYTE", type := .int, accessFlags := 25, slot := 15, constantValue := 0 }, { name := "T_SHORT", type := .int, accessFlags := 25, slot := 16, constantValue := 0 }, { name := "T_INT", type := .int, accessFlags := 25, slot := 17, constantValue := 0 }, { name := "T_LONG", type := .int, accessFlags := 25, slot := 18, constantValue := 0 }, { name := "JLA", type := (.object "jdk/internal/access/JavaLangAccess"), accessFlags := 26, slot := 19, constantValue := 0 }, { name := "SOFT_MAX_ARRAY_LENGTH", type := .int, accessFlags := 25, slot := 20, constantValue := 0 }]
  methods := #[k18m0]
  instanceTypes := #[]
  staticTypes := #[(.object "jdk/internal/misc/Unsafe"), .boolean, .int, .int, .int, .int, .int, .int, .int, .int, .int, .int, .int, .int, .int, .int, .int, .int, .int, (.object "jdk/internal/access/JavaLangAccess"), .int]
  resolved := Array.replicate 378 none
  statics := none }

def pool19 : Array CpInfo := pool [(1, u "java/lang/Cloneable"), (0, .class_ 1), (0, u "java/lang/Object"), (0, .class_ 3)] 3

/-- java/lang/Cloneable -/
def k19 : Class := { plain "java/lang/Cloneable" (some 0) with
  accessFlags := 1537
  interfaces := #[]
  cf := some (fileOf pool19 2 #[] #[] 1537 4 #[] #[])
  fields := #[]
  methods := #[]
  instanceTypes := #[]
  staticTypes := #[]
  resolved := Array.replicate 8 none
  statics := none }

/-- the primitive byte -/
def k20 : Class := { plain "byte" none with kind := .primitive 'B', accessFlags := 0x411 }
/-- [B -/
def k21 : Class := { plain "[B" (some 0) with kind := .array 20 .byte, interfaces := #[19, 4], accessFlags := 1041 }

/-- the primitive char -/
def k22 : Class := { plain "char" none with kind := .primitive 'C', accessFlags := 0x411 }
/-- [C -/
def k23 : Class := { plain "[C" (some 0) with kind := .array 22 .char, interfaces := #[19, 4], accessFlags := 1041 }

/-- the primitive int -/
def k24 : Class := { plain "int" none with kind := .primitive 'I', accessFlags := 0x411 }
/-- [I -/
def k25 : Class := { plain "[I" (some 0) with kind := .array 24 .int, interfaces := #[19, 4], accessFlags := 1041 }

def heap : Heap := #[{ cls := 11, slots := #[.ref 3, .null, .null, .null], vm := .statics 11 },
  { cls := 14, slots := #[.long 0, .int 1, .null, .int 0, .null, .int 0, .int 0], vm := .statics 14 },
  { cls := 17, slots := #[.null, .null, .null], vm := .statics 17 },
  { cls := 11, slots := #[.null, .int 0, .int 0], vm := .none }]
def classes : Array Class := #[k0, k1, k2, k3, k4, k5, k6, k7, k8, k9, k10, k11, k12, k13, k14, k15, k16, k17, k18, k19, k20, k21, k22, k23, k24, k25]
def interned : List (Array UInt16 × Addr) := []
def slotsUsed : Nat := 17
def theMethod : MethodId := ⟨1, 5⟩
def args0 : Array Value := #[.int 1, .int 2, .int 3, .int 4]
def aboutOver (below : List Frame) : State where
  vm := { classes := classes, interned := interned.toArray }
  heap := heap
  slotsUsed := slotsUsed
  threads := #[{ frames := .invoking theMethod args0 :: below }]
def below0 : List Frame := [.native { method := ⟨0, 0⟩, args := #[] }]
def about1 : State := aboutOver below0
def p0 : Program := .bare "" "" ""
def e0 : Env := launch0.env 0 0 0
theorem w_frames : about1.frames = Frame.invoking theMethod args0 :: below0 := rfl
set_option maxRecDepth 65536 in
theorem w_args : argsFit about1.vm theMethod args0 = true := by decide +kernel
set_option maxRecDepth 65536 in
theorem w_heap : heapFits about1 = true := by decide +kernel
set_option maxRecDepth 65536 in
theorem w_runnable : about1.curStatus? = some .runnable := by decide +kernel
set_option maxRecDepth 65536 in
theorem w_alone : about1.alone = true := by decide +kernel
set_option maxRecDepth 65536 in
theorem w_named : about1.methodNamed? x = some theMethod := by decide +kernel
set_option maxRecDepth 65536 in
theorem w_hears : about1.hears theMethod below0 = true := by decide +kernel
set_option maxRecDepth 65536 in
theorem w_ripe : about1.ripe theMethod args0 below0 = true := by decide +kernel
theorem w_running : about1.status = .running := rfl
set_option maxRecDepth 65536 in
theorem w_room : about1.hasRoom e0.platform room_1 = true :=
  launch0.hasRoom_least _ room_1 (by decide +kernel) (by decide +kernel) (by decide +kernel) (by decide +kernel) (by decide +kernel) (by decide +kernel)
theorem allAtoms_all (ts : List Jvm.Cond) (a : Array Jvm.Value) (st : Jvm.State) : (allAtoms ts).before a st = ts.all (fun c => c.before a st) := by
  induction ts with
  | nil => rfl
  | cons c t ih =>
    show (Jvm.Cond.and c (allAtoms t)).before a st = _
    rw [Jvm.Cond.before_and, ih, List.all_cons]
def words1 : List Jvm.Cond := Jvm.Cond.code x code maxLocals ret :: tables_1
/-- a 'code' word, met by the world's own term for the bytes: nothing is compared byte by byte -/
theorem code_word {y : MethodName} {bytes : ByteArray} {mx : Nat} {rt : Option FieldType} {a : Array Value} {s : State} {m : MethodId} {meth : Method} {c : Code} (h1 : s.methodNamed? y = some m) (h2 : s.vm.method? m = some meth) (h3 : meth.code = some c) (h4 : c.code = bytes)
    (h5 : (c.maxLocals == mx && c.exceptionTable.isEmpty && decide (c.maxStack ≤ mostOperands) && decide (meth.sig.returnType = rt) && !meth.locks && decide (parseMethodDescriptor y.desc = some meth.sig)) = true) : (Jvm.Cond.code y bytes mx rt).before a s = true := by
  simp only [Bool.and_eq_true, beq_iff_eq, Bool.not_eq_true', decide_eq_true_eq] at h5
  obtain ⟨⟨⟨⟨⟨g1, g2⟩, g3⟩, g4⟩, g5⟩, g6⟩ := h5
  simp [Cond.before, Cond.holds, Cond.value, h1, h2, h3, h4, g1, g2, g3, g4, g5, g6]
def isCode : Jvm.Cond → Bool
  | .code _ _ _ _ => true
  | _ => false
theorem all_split {L : List Jvm.Cond} {P : Jvm.Cond → Bool} (h1 : L.all (fun c => isCode c || P c) = true) (h2 : ∀ c ∈ L.filter isCode, P c = true) : L.all P = true := by
  refine List.all_eq_true.mpr fun c hc => ?_
  have h := List.all_eq_true.mp h1 c hc
  rcases Bool.eq_false_or_eq_true (isCode c) with hi | hi
  · exact h2 c (List.mem_filter.mpr ⟨hc, hi⟩)
  · simpa [hi] using h
set_option maxRecDepth 65536 in
theorem w_c0 : (Jvm.Cond.code x code maxLocals ret).before args0 about1 = true := code_word (m := ⟨1, 5⟩) (meth := k1m5) (c := k1c5) (by decide +kernel) rfl rfl rfl (by decide +kernel)
set_option maxRecDepth 65536 in
theorem w_c1 : (Jvm.Cond.code ({ cls := "com/example/tramway/tramway/poa/TramwayPoaManager", name := "<init>", desc := "()V" } : Jvm.MethodName) prog_144_method_1_code (1 : Nat) (Option.none : Option Jvm.ClassFile.FieldType)).before args0 about1 = true := code_word (m := ⟨7, 0⟩) (meth := k7m0) (c := k7c0) (by decide +kernel) rfl rfl rfl (by decide +kernel)
set_option maxRecDepth 65536 in
theorem w_c2 : (Jvm.Cond.code ({ cls := "java/lang/Object", name := "<init>", desc := "()V" } : Jvm.MethodName) object_method_1_code (1 : Nat) (Option.none : Option Jvm.ClassFile.FieldType)).before args0 about1 = true := code_word (m := ⟨0, 0⟩) (meth := k0m0) (c := k0c0) (by decide +kernel) rfl rfl rfl (by decide +kernel)
set_option maxRecDepth 65536 in
theorem w_c3 : (Jvm.Cond.code ({ cls := "com/example/tramway/tramway/poa/TramwayPoaManagerIs_aPinLaw", name := "mgr", desc := "()[C" } : Jvm.MethodName) method_2_code (0 : Nat) (Option.some (Jvm.ClassFile.FieldType.array Jvm.ClassFile.FieldType.char))).before args0 about1 = true := code_word (m := ⟨1, 1⟩) (meth := k1m1) (c := k1c1) (by decide +kernel) rfl rfl rfl (by decide +kernel)
set_option maxRecDepth 65536 in
theorem w_c4 : (Jvm.Cond.code ({ cls := "java/lang/String", name := "<init>", desc := "([C)V" } : Jvm.MethodName) jdk_42_method_3_code (2 : Nat) (Option.none : Option Jvm.ClassFile.FieldType)).before args0 about1 = true := code_word (m := ⟨14, 1⟩) (meth := k14m1) (c := k14c1) (by decide +kernel) rfl rfl rfl (by decide +kernel)
set_option maxRecDepth 65536 in
theorem w_c5 : (Jvm.Cond.code ({ cls := "java/lang/String", name := "<init>", desc := "([CIILjava/lang/Void;)V" } : Jvm.MethodName) jdk_42_method_149_code (6 : Nat) (Option.none : Option Jvm.ClassFile.FieldType)).before args0 about1 = true := code_word (m := ⟨14, 4⟩) (meth := k14m4) (c := k14c4) (by decide +kernel) rfl rfl rfl (by decide +kernel)
set_option maxRecDepth 65536 in
theorem w_c6 : (Jvm.Cond.code ({ cls := "java/lang/StringUTF16", name := "compress", desc := "([CII)[B" } : Jvm.MethodName) jdk_52_method_16_code (6 : Nat) (Option.some (Jvm.ClassFile.FieldType.array Jvm.ClassFile.FieldType.byte))).before args0 about1 = true := code_word (m := ⟨15, 2⟩) (meth := k15m2) (c := k15c2) (by decide +kernel) rfl rfl rfl (by decide +kernel)
set_option maxRecDepth 65536 in
theorem w_c7 : (Jvm.Cond.code ({ cls := "java/lang/StringUTF16", name := "compress", desc := "([CI[BII)I" } : Jvm.MethodName) jdk_52_method_21_code (7 : Nat) (Option.some Jvm.ClassFile.FieldType.int)).before args0 about1 = true := code_word (m := ⟨15, 3⟩) (meth := k15m3) (c := k15c3) (by decide +kernel) rfl rfl rfl (by decide +kernel)
set_option maxRecDepth 65536 in
theorem w_c8 : (Jvm.Cond.code ({ cls := "java/lang/StringUTF16", name := "coderFromArrayLen", desc := "([BI)B" } : Jvm.MethodName) jdk_52_method_15_code (2 : Nat) (Option.some Jvm.ClassFile.FieldType.byte)).before args0 about1 = true := code_word (m := ⟨15, 1⟩) (meth := k15m1) (c := k15c1) (by decide +kernel) rfl rfl rfl (by decide +kernel)
set_option maxRecDepth 65536 in
theorem w_c9 : (Jvm.Cond.code ({ cls := "com/example/tramway/tramway/poa/TramwayPoaManager", name := "_is_a", desc := "(Ljava/lang/String;)Z" } : Jvm.MethodName) prog_144_method_5_code (2 : Nat) (Option.some Jvm.ClassFile.FieldType.boolean)).before args0 about1 = true := code_word (m := ⟨7, 1⟩) (meth := k7m1) (c := k7c1) (by decide +kernel) rfl rfl rfl (by decide +kernel)
set_option maxRecDepth 65536 in
theorem w_c10 : (Jvm.Cond.code ({ cls := "java/lang/String", name := "equals", desc := "(Ljava/lang/Object;)Z" } : Jvm.MethodName) jdk_42_method_66_code (3 : Nat) (Option.some Jvm.ClassFile.FieldType.boolean)).before args0 about1 = true := code_word (m := ⟨14, 2⟩) (meth := k14m2) (c := k14c2) (by decide +kernel) rfl rfl rfl (by decide +kernel)
set_option maxRecDepth 65536 in
theorem w_c11 : (Jvm.Cond.code ({ cls := "java/lang/StringLatin1", name := "equals", desc := "([B[B)Z" } : Jvm.MethodName) jdk_43_method_13_code (3 : Nat) (Option.some Jvm.ClassFile.FieldType.boolean)).before args0 about1 = true := code_word (m := ⟨16, 2⟩) (meth := k16m2) (c := k16c2) (by decide +kernel) rfl rfl rfl (by decide +kernel)
set_option maxRecDepth 65536 in
theorem w_c12 : (Jvm.Cond.code ({ cls := "com/example/tramway/tramway/poa/TramwayPoaManagerIs_aPinLaw", name := "obj", desc := "()[C" } : Jvm.MethodName) method_4_code (0 : Nat) (Option.some (Jvm.ClassFile.FieldType.array Jvm.ClassFile.FieldType.char))).before args0 about1 = true := code_word (m := ⟨1, 3⟩) (meth := k1m3) (c := k1c3) (by decide +kernel) rfl rfl rfl (by decide +kernel)
set_option maxRecDepth 65536 in
theorem w_c13 : (Jvm.Cond.code ({ cls := "java/lang/String", name := "valueOf", desc := "(C)Ljava/lang/String;" } : Jvm.MethodName) jdk_42_method_139_code (1 : Nat) (Option.some (Jvm.ClassFile.FieldType.object "java/lang/String"))).before args0 about1 = true := code_word (m := ⟨14, 3⟩) (meth := k14m3) (c := k14c3) (by decide +kernel) rfl rfl rfl (by decide +kernel)
set_option maxRecDepth 65536 in
theorem w_c14 : (Jvm.Cond.code ({ cls := "java/lang/StringLatin1", name := "canEncode", desc := "(C)Z" } : Jvm.MethodName) jdk_43_method_3_code (1 : Nat) (Option.some Jvm.ClassFile.FieldType.boolean)).before args0 about1 = true := code_word (m := ⟨16, 1⟩) (meth := k16m1) (c := k16c1) (by decide +kernel) rfl rfl rfl (by decide +kernel)
set_option maxRecDepth 65536 in
theorem w_c15 : (Jvm.Cond.code ({ cls := "java/lang/StringLatin1", name := "toBytes", desc := "(C)[B" } : Jvm.MethodName) jdk_43_method_46_code (1 : Nat) (Option.some (Jvm.ClassFile.FieldType.array Jvm.ClassFile.FieldType.byte))).before args0 about1 = true := code_word (m := ⟨16, 3⟩) (meth := k16m3) (c := k16c3) (by decide +kernel) rfl rfl rfl (by decide +kernel)
set_option maxRecDepth 65536 in
theorem w_c16 : (Jvm.Cond.code ({ cls := "java/lang/String", name := "<init>", desc := "([BB)V" } : Jvm.MethodName) jdk_42_method_151_code (3 : Nat) (Option.none : Option Jvm.ClassFile.FieldType)).before args0 about1 = true := code_word (m := ⟨14, 5⟩) (meth := k14m5) (c := k14c5) (by decide +kernel) rfl rfl rfl (by decide +kernel)
set_option maxRecDepth 65536 in
theorem w_c17 : (Jvm.Cond.code ({ cls := "com/example/tramway/tramway/poa/TramwayPoaManagerIs_aPinLaw", name := "mgrPlus", desc := "(C)[C" } : Jvm.MethodName) method_3_code (1 : Nat) (Option.some (Jvm.ClassFile.FieldType.array Jvm.ClassFile.FieldType.char))).before args0 about1 = true := code_word (m := ⟨1, 2⟩) (meth := k1m2) (c := k1c2) (by decide +kernel) rfl rfl rfl (by decide +kernel)
set_option maxRecDepth 65536 in
theorem w_c18 : (Jvm.Cond.code ({ cls := "com/example/tramway/tramway/poa/TramwayPoaManagerIs_aPinLaw", name := "objPlus", desc := "(C)[C" } : Jvm.MethodName) method_5_code (1 : Nat) (Option.some (Jvm.ClassFile.FieldType.array Jvm.ClassFile.FieldType.char))).before args0 about1 = true := code_word (m := ⟨1, 4⟩) (meth := k1m4) (c := k1c4) (by decide +kernel) rfl rfl rfl (by decide +kernel)
def codes1 : List Jvm.Cond := [Jvm.Cond.code x code maxLocals ret, Jvm.Cond.code ({ cls := "com/example/tramway/tramway/poa/TramwayPoaManager", name := "<init>", desc := "()V" } : Jvm.MethodName) prog_144_method_1_code (1 : Nat) (Option.none : Option Jvm.ClassFile.FieldType), Jvm.Cond.code ({ cls := "java/lang/Object", name := "<init>", desc := "()V" } : Jvm.MethodName) object_method_1_code (1 : Nat) (Option.none : Option Jvm.ClassFile.FieldType), Jvm.Cond.code ({ cls := "com/example/tramway/tramway/poa/TramwayPoaManagerIs_aPinLaw", name := "mgr", desc := "()[C" } : Jvm.MethodName) method_2_code (0 : Nat) (Option.some (Jvm.ClassFile.FieldType.array Jvm.ClassFile.FieldType.char)), Jvm.Cond.code ({ cls := "java/lang/String", name := "<init>", desc := "([C)V" } : Jvm.MethodName) jdk_42_method_3_code (2 : Nat) (Option.none : Option Jvm.ClassFile.FieldType), Jvm.Cond.code ({ cls := "java/lang/String", name := "<init>", desc := "([CIILjava/lang/Void;)V" } : Jvm.MethodName) jdk_42_method_149_code (6 : Nat) (Option.none : Option Jvm.ClassFile.FieldType), Jvm.Cond.code ({ cls := "java/lang/StringUTF16", name := "compress", desc := "([CII)[B" } : Jvm.MethodName) jdk_52_method_16_code (6 : Nat) (Option.some (Jvm.ClassFile.FieldType.array Jvm.ClassFile.FieldType.byte)), Jvm.Cond.code ({ cls := "java/lang/StringUTF16", name := "compress", desc := "([CI[BII)I" } : Jvm.MethodName) jdk_52_method_21_code (7 : Nat) (Option.some Jvm.ClassFile.FieldType.int), Jvm.Cond.code ({ cls := "java/lang/StringUTF16", name := "coderFromArrayLen", desc := "([BI)B" } : Jvm.MethodName) jdk_52_method_15_code (2 : Nat) (Option.some Jvm.ClassFile.FieldType.byte), Jvm.Cond.code ({ cls := "com/example/tramway/tramway/poa/TramwayPoaManager", name := "_is_a", desc := "(Ljava/lang/String;)Z" } : Jvm.MethodName) prog_144_method_5_code (2 : Nat) (Option.some Jvm.ClassFile.FieldType.boolean), Jvm.Cond.code ({ cls := "java/lang/String", name := "equals", desc := "(Ljava/lang/Object;)Z" } : Jvm.MethodName) jdk_42_method_66_code (3 : Nat) (Option.some Jvm.ClassFile.FieldType.boolean), Jvm.Cond.code ({ cls := "java/lang/StringLatin1", name := "equals", desc := "([B[B)Z" } : Jvm.MethodName) jdk_43_method_13_code (3 : Nat) (Option.some Jvm.ClassFile.FieldType.boolean), Jvm.Cond.code ({ cls := "com/example/tramway/tramway/poa/TramwayPoaManagerIs_aPinLaw", name := "obj", desc := "()[C" } : Jvm.MethodName) method_4_code (0 : Nat) (Option.some (Jvm.ClassFile.FieldType.array Jvm.ClassFile.FieldType.char)), Jvm.Cond.code ({ cls := "java/lang/String", name := "valueOf", desc := "(C)Ljava/lang/String;" } : Jvm.MethodName) jdk_42_method_139_code (1 : Nat) (Option.some (Jvm.ClassFile.FieldType.object "java/lang/String")), Jvm.Cond.code ({ cls := "java/lang/StringLatin1", name := "canEncode", desc := "(C)Z" } : Jvm.MethodName) jdk_43_method_3_code (1 : Nat) (Option.some Jvm.ClassFile.FieldType.boolean), Jvm.Cond.code ({ cls := "java/lang/StringLatin1", name := "toBytes", desc := "(C)[B" } : Jvm.MethodName) jdk_43_method_46_code (1 : Nat) (Option.some (Jvm.ClassFile.FieldType.array Jvm.ClassFile.FieldType.byte)), Jvm.Cond.code ({ cls := "java/lang/String", name := "<init>", desc := "([BB)V" } : Jvm.MethodName) jdk_42_method_151_code (3 : Nat) (Option.none : Option Jvm.ClassFile.FieldType), Jvm.Cond.code ({ cls := "com/example/tramway/tramway/poa/TramwayPoaManagerIs_aPinLaw", name := "mgrPlus", desc := "(C)[C" } : Jvm.MethodName) method_3_code (1 : Nat) (Option.some (Jvm.ClassFile.FieldType.array Jvm.ClassFile.FieldType.char)), Jvm.Cond.code ({ cls := "com/example/tramway/tramway/poa/TramwayPoaManagerIs_aPinLaw", name := "objPlus", desc := "(C)[C" } : Jvm.MethodName) method_5_code (1 : Nat) (Option.some (Jvm.ClassFile.FieldType.array Jvm.ClassFile.FieldType.char))]
set_option maxRecDepth 65536 in
theorem codes_eq : words1.filter isCode = codes1 := rfl
theorem w_codes : ∀ c ∈ words1.filter isCode, c.before args0 about1 = true := by
  rw [codes_eq]
  intro c hc
  simp only [codes1, List.mem_cons, List.not_mem_nil, or_false] at hc
  rcases hc with rfl | rfl | rfl | rfl | rfl | rfl | rfl | rfl | rfl | rfl | rfl | rfl | rfl | rfl | rfl | rfl | rfl | rfl | rfl
  · exact w_c0
  · exact w_c1
  · exact w_c2
  · exact w_c3
  · exact w_c4
  · exact w_c5
  · exact w_c6
  · exact w_c7
  · exact w_c8
  · exact w_c9
  · exact w_c10
  · exact w_c11
  · exact w_c12
  · exact w_c13
  · exact w_c14
  · exact w_c15
  · exact w_c16
  · exact w_c17
  · exact w_c18
set_option maxRecDepth 65536 in
theorem w_t1 : (words1.take 24).all (fun c => isCode c || c.before args0 about1) = true := by decide +kernel
set_option maxRecDepth 65536 in
theorem w_t2 : ((words1.drop 24).take 24).all (fun c => isCode c || c.before args0 about1) = true := by decide +kernel
set_option maxRecDepth 65536 in
theorem w_t3 : (((words1.drop 24).drop 24).take 24).all (fun c => isCode c || c.before args0 about1) = true := by decide +kernel
set_option maxRecDepth 65536 in
theorem w_t4 : (((words1.drop 24).drop 24).drop 24).all (fun c => isCode c || c.before args0 about1) = true := by decide +kernel
theorem w_tables : (allAtoms (Jvm.Cond.code x code maxLocals ret :: tables_1)).before args0 about1 = true := by
  rw [allAtoms_all]
  show words1.all (fun c => c.before args0 about1) = true
  refine all_split ?_ w_codes
  rw [← List.take_append_drop 24 words1, List.all_append, w_t1, ← List.take_append_drop 24 (words1.drop 24), List.all_append, w_t2, ← List.take_append_drop 24 ((words1.drop 24).drop 24), List.all_append, w_t3, w_t4]
  rfl
set_option maxRecDepth 65536 in
theorem w_rest : rest_1_c.before args0 about1 = true := by decide +kernel
set_option maxRecDepth 65536 in
theorem w_case : (Jvm.Cond.and given_1 narrow_1).before args0 about1 = true := by decide +kernel
set_option maxRecDepth 65536 in
theorem w_consts : constsHeld consts_1 about1 := Jvm.Lit.constsHeldB_iff.mp (by decide +kernel)
theorem w_applies : (headSpec (Jvm.Cond.code x code maxLocals ret :: tables_1) room_1).applies x e0.platform about1 = true :=
  (Spec.applies_iff w_frames).mpr ⟨w_running, w_runnable, w_alone, w_named, w_hears, w_ripe, w_room, w_tables⟩
theorem atStart : AtStart classFile x code maxLocals ret World_1 tables_1 room_1 Calls_1 rest_1 Pre_1 launch0 p0 e0 about1 theMethod args0 below0 :=
  ⟨lists_1, trivial, launch0.admits_env _ _ _, launch0.least_env, fairChoices_fair.cas, fairChoices_fair.clock, w_frames, w_args, w_heap, w_applies, ⟨w_consts, trivial⟩, w_rest, w_case⟩
end start1
theorem witness_1 : WitnessClaimed_1 := ⟨start1.p0, start1.e0, start1.about1, start1.theMethod, start1.args0, start1.below0, start1.atStart⟩
end Jvm.Pilot.@@N@@
