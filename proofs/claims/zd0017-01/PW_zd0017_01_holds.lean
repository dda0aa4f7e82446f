import PyProof.Rows.All
import Wide.All
import OpenK.AllK
import Wide.FinOn
import PySem.Challenge.RW_zd0017_01
set_option Elab.async false
set_option maxRecDepth 100000
section
namespace Mine
theorem nosome {α} {x : α} {p : Prop} (h : none = some x) : p := by cases h
theorem nosome' {α} {x : α} {p : Prop} (h : some x = none) : p := by cases h
theorem noft {p : Prop} (h : false = true) : p := by cases h
theorem notf {p : Prop} (h : true = false) : p := by cases h
theorem pj1 {α β} {a c : α} {b d : β} (h : (a, b) = (c, d)) : a = c := by cases h; rfl
theorem pj2 {α β} {a c : α} {b d : β} (h : (a, b) = (c, d)) : b = d := by cases h; rfl
theorem sinj {α} {a c : α} (h : some a = some c) : a = c := by cases h; rfl
section
variable {G : Prop} {a b c d e f g i j l : Sort _}
variable {P00 P01 P02 P03 P04 : Prop}
variable {P10 P11 P12 P13 : a → Prop}
variable {P20 P21 P22 P23 P24 P25 : a → b → Prop}
variable {P30 P31 P32 P33 P34 P35 : a → b → c → Prop}
variable {P40 P41 P42 P43 P44 P45 : a → b → c → d → Prop}
variable {P50 P51 P52 P53 P54 P55 P56 P57 P58 : a → b → c → d → e → Prop}
variable {P60 P61 P62 P63 : a → b → c → d → e → f → Prop}
variable {P70 P71 P72 P73 : a → b → c → d → e → f → g → Prop}
variable {P80 : a → b → c → d → e → f → g → i → Prop}
variable {P100 P101 P102 P103 : a → b → c → d → e → f → g → i → j → l → Prop}
theorem Xa (h : P00 ∧ P01) (k : P00 → P01 → G) : G := h.elim fun m0 m1 => k m0 m1
theorem Xe (h : ∃ x, P10 x) (k : ∀ x, P10 x → G) : G := h.elim fun m0 m1 => k m0 m1
theorem Xaa (h : P00 ∧ P01 ∧ P02) (k : P00 → P01 → P02 → G) : G := h.elim fun m0 h => h.elim fun m1 m2 => k m0 m1 m2
theorem Xae (h : P00 ∧ ∃ x, P10 x) (k : P00 → ∀ x, P10 x → G) : G := h.elim fun m0 h => h.elim fun m1 m2 => k m0 m1 m2
theorem Xea (h : ∃ x, P10 x ∧ P11 x) (k : ∀ x, P10 x → P11 x → G) : G := h.elim fun m0 h => h.elim fun m1 m2 => k m0 m1 m2
theorem Xee (h : ∃ x, ∃ y, P20 x y) (k : ∀ x, ∀ y, P20 x y → G) : G := h.elim fun m0 h => h.elim fun m1 m2 => k m0 m1 m2
theorem Xaaa (h : P00 ∧ P01 ∧ P02 ∧ P03) (k : P00 → P01 → P02 → P03 → G) : G := h.elim fun m0 h => h.elim fun m1 h => h.elim fun m2 m3 => k m0 m1 m2 m3
theorem Xeaa (h : ∃ x, P10 x ∧ P11 x ∧ P12 x) (k : ∀ x, P10 x → P11 x → P12 x → G) : G := h.elim fun m0 h => h.elim fun m1 h => h.elim fun m2 m3 => k m0 m1 m2 m3
theorem Xeae (h : ∃ x, P10 x ∧ ∃ y, P20 x y) (k : ∀ x, P10 x → ∀ y, P20 x y → G) : G := h.elim fun m0 h => h.elim fun m1 h => h.elim fun m2 m3 => k m0 m1 m2 m3
theorem Xeea (h : ∃ x, ∃ y, P20 x y ∧ P21 x y) (k : ∀ x, ∀ y, P20 x y → P21 x y → G) : G := h.elim fun m0 h => h.elim fun m1 h => h.elim fun m2 m3 => k m0 m1 m2 m3
theorem Xeee (h : ∃ x, ∃ y, ∃ z, P30 x y z) (k : ∀ x, ∀ y, ∀ z, P30 x y z → G) : G := h.elim fun m0 h => h.elim fun m1 h => h.elim fun m2 m3 => k m0 m1 m2 m3
theorem Xaaaa (h : P00 ∧ P01 ∧ P02 ∧ P03 ∧ P04) (k : P00 → P01 → P02 → P03 → P04 → G) : G := h.elim fun m0 h => h.elim fun m1 h => h.elim fun m2 h => h.elim fun m3 m4 => k m0 m1 m2 m3 m4
theorem Xeaaa (h : ∃ x, P10 x ∧ P11 x ∧ P12 x ∧ P13 x) (k : ∀ x, P10 x → P11 x → P12 x → P13 x → G) : G := h.elim fun m0 h => h.elim fun m1 h => h.elim fun m2 h => h.elim fun m3 m4 => k m0 m1 m2 m3 m4
theorem Xeaae (h : ∃ x, P10 x ∧ P11 x ∧ ∃ y, P20 x y) (k : ∀ x, P10 x → P11 x → ∀ y, P20 x y → G) : G := h.elim fun m0 h => h.elim fun m1 h => h.elim fun m2 h => h.elim fun m3 m4 => k m0 m1 m2 m3 m4
theorem Xeeaa (h : ∃ x, ∃ y, P20 x y ∧ P21 x y ∧ P22 x y) (k : ∀ x, ∀ y, P20 x y → P21 x y → P22 x y → G) : G := h.elim fun m0 h => h.elim fun m1 h => h.elim fun m2 h => h.elim fun m3 m4 => k m0 m1 m2 m3 m4
theorem Xeeea (h : ∃ x, ∃ y, ∃ z, P30 x y z ∧ P31 x y z) (k : ∀ x, ∀ y, ∀ z, P30 x y z → P31 x y z → G) : G := h.elim fun m0 h => h.elim fun m1 h => h.elim fun m2 h => h.elim fun m3 m4 => k m0 m1 m2 m3 m4
theorem Xeeee (h : ∃ x, ∃ y, ∃ z, ∃ u, P40 x y z u) (k : ∀ x, ∀ y, ∀ z, ∀ u, P40 x y z u → G) : G := h.elim fun m0 h => h.elim fun m1 h => h.elim fun m2 h => h.elim fun m3 m4 => k m0 m1 m2 m3 m4
theorem Xaeeaa (h : P00 ∧ ∃ x, ∃ y, P20 x y ∧ P21 x y ∧ P22 x y) (k : P00 → ∀ x, ∀ y, P20 x y → P21 x y → P22 x y → G) : G := h.elim fun m0 h => h.elim fun m1 h => h.elim fun m2 h => h.elim fun m3 h => h.elim fun m4 m5 => k m0 m1 m2 m3 m4 m5
theorem Xeeaaa (h : ∃ x, ∃ y, P20 x y ∧ P21 x y ∧ P22 x y ∧ P23 x y) (k : ∀ x, ∀ y, P20 x y → P21 x y → P22 x y → P23 x y → G) : G := h.elim fun m0 h => h.elim fun m1 h => h.elim fun m2 h => h.elim fun m3 h => h.elim fun m4 m5 => k m0 m1 m2 m3 m4 m5
theorem Xeeeaa (h : ∃ x, ∃ y, ∃ z, P30 x y z ∧ P31 x y z ∧ P32 x y z) (k : ∀ x, ∀ y, ∀ z, P30 x y z → P31 x y z → P32 x y z → G) : G := h.elim fun m0 h => h.elim fun m1 h => h.elim fun m2 h => h.elim fun m3 h => h.elim fun m4 m5 => k m0 m1 m2 m3 m4 m5
theorem Xeeeea (h : ∃ x, ∃ y, ∃ z, ∃ u, P40 x y z u ∧ P41 x y z u) (k : ∀ x, ∀ y, ∀ z, ∀ u, P40 x y z u → P41 x y z u → G) : G := h.elim fun m0 h => h.elim fun m1 h => h.elim fun m2 h => h.elim fun m3 h => h.elim fun m4 m5 => k m0 m1 m2 m3 m4 m5
theorem Xeeaaaa (h : ∃ x, ∃ y, P20 x y ∧ P21 x y ∧ P22 x y ∧ P23 x y ∧ P24 x y) (k : ∀ x, ∀ y, P20 x y → P21 x y → P22 x y → P23 x y → P24 x y → G) : G := h.elim fun m0 h => h.elim fun m1 h => h.elim fun m2 h => h.elim fun m3 h => h.elim fun m4 h => h.elim fun m5 m6 => k m0 m1 m2 m3 m4 m5 m6
theorem Xeeeaaa (h : ∃ x, ∃ y, ∃ z, P30 x y z ∧ P31 x y z ∧ P32 x y z ∧ P33 x y z) (k : ∀ x, ∀ y, ∀ z, P30 x y z → P31 x y z → P32 x y z → P33 x y z → G) : G := h.elim fun m0 h => h.elim fun m1 h => h.elim fun m2 h => h.elim fun m3 h => h.elim fun m4 h => h.elim fun m5 m6 => k m0 m1 m2 m3 m4 m5 m6
theorem Xeeeeaa (h : ∃ x, ∃ y, ∃ z, ∃ u, P40 x y z u ∧ P41 x y z u ∧ P42 x y z u) (k : ∀ x, ∀ y, ∀ z, ∀ u, P40 x y z u → P41 x y z u → P42 x y z u → G) : G := h.elim fun m0 h => h.elim fun m1 h => h.elim fun m2 h => h.elim fun m3 h => h.elim fun m4 h => h.elim fun m5 m6 => k m0 m1 m2 m3 m4 m5 m6
theorem Xeeaaaaa (h : ∃ x, ∃ y, P20 x y ∧ P21 x y ∧ P22 x y ∧ P23 x y ∧ P24 x y ∧ P25 x y) (k : ∀ x, ∀ y, P20 x y → P21 x y → P22 x y → P23 x y → P24 x y → P25 x y → G) : G := h.elim fun m0 h => h.elim fun m1 h => h.elim fun m2 h => h.elim fun m3 h => h.elim fun m4 h => h.elim fun m5 h => h.elim fun m6 m7 => k m0 m1 m2 m3 m4 m5 m6 m7
theorem Xeeeaaaa (h : ∃ x, ∃ y, ∃ z, P30 x y z ∧ P31 x y z ∧ P32 x y z ∧ P33 x y z ∧ P34 x y z) (k : ∀ x, ∀ y, ∀ z, P30 x y z → P31 x y z → P32 x y z → P33 x y z → P34 x y z → G) : G := h.elim fun m0 h => h.elim fun m1 h => h.elim fun m2 h => h.elim fun m3 h => h.elim fun m4 h => h.elim fun m5 h => h.elim fun m6 m7 => k m0 m1 m2 m3 m4 m5 m6 m7
theorem Xeeeeaaa (h : ∃ x, ∃ y, ∃ z, ∃ u, P40 x y z u ∧ P41 x y z u ∧ P42 x y z u ∧ P43 x y z u) (k : ∀ x, ∀ y, ∀ z, ∀ u, P40 x y z u → P41 x y z u → P42 x y z u → P43 x y z u → G) : G := h.elim fun m0 h => h.elim fun m1 h => h.elim fun m2 h => h.elim fun m3 h => h.elim fun m4 h => h.elim fun m5 h => h.elim fun m6 m7 => k m0 m1 m2 m3 m4 m5 m6 m7
theorem Xeaeeeaaa (h : ∃ x, P10 x ∧ ∃ y, ∃ z, ∃ u, P40 x y z u ∧ P41 x y z u ∧ P42 x y z u ∧ P43 x y z u) (k : ∀ x, P10 x → ∀ y, ∀ z, ∀ u, P40 x y z u → P41 x y z u → P42 x y z u → P43 x y z u → G) : G := h.elim fun m0 h => h.elim fun m1 h => h.elim fun m2 h => h.elim fun m3 h => h.elim fun m4 h => h.elim fun m5 h => h.elim fun m6 h => h.elim fun m7 m8 => k m0 m1 m2 m3 m4 m5 m6 m7 m8
theorem Xeaeeeeaa (h : ∃ x, P10 x ∧ ∃ y, ∃ z, ∃ u, ∃ v, P50 x y z u v ∧ P51 x y z u v ∧ P52 x y z u v) (k : ∀ x, P10 x → ∀ y, ∀ z, ∀ u, ∀ v, P50 x y z u v → P51 x y z u v → P52 x y z u v → G) : G := h.elim fun m0 h => h.elim fun m1 h => h.elim fun m2 h => h.elim fun m3 h => h.elim fun m4 h => h.elim fun m5 h => h.elim fun m6 h => h.elim fun m7 m8 => k m0 m1 m2 m3 m4 m5 m6 m7 m8
theorem Xeeaaeeaa (h : ∃ x, ∃ y, P20 x y ∧ P21 x y ∧ ∃ z, ∃ u, P40 x y z u ∧ P41 x y z u ∧ P42 x y z u) (k : ∀ x, ∀ y, P20 x y → P21 x y → ∀ z, ∀ u, P40 x y z u → P41 x y z u → P42 x y z u → G) : G := h.elim fun m0 h => h.elim fun m1 h => h.elim fun m2 h => h.elim fun m3 h => h.elim fun m4 h => h.elim fun m5 h => h.elim fun m6 h => h.elim fun m7 m8 => k m0 m1 m2 m3 m4 m5 m6 m7 m8
theorem Xeeeaaaaa (h : ∃ x, ∃ y, ∃ z, P30 x y z ∧ P31 x y z ∧ P32 x y z ∧ P33 x y z ∧ P34 x y z ∧ P35 x y z) (k : ∀ x, ∀ y, ∀ z, P30 x y z → P31 x y z → P32 x y z → P33 x y z → P34 x y z → P35 x y z → G) : G := h.elim fun m0 h => h.elim fun m1 h => h.elim fun m2 h => h.elim fun m3 h => h.elim fun m4 h => h.elim fun m5 h => h.elim fun m6 h => h.elim fun m7 m8 => k m0 m1 m2 m3 m4 m5 m6 m7 m8
theorem Xeeeeaaaa (h : ∃ x, ∃ y, ∃ z, ∃ u, P40 x y z u ∧ P41 x y z u ∧ P42 x y z u ∧ P43 x y z u ∧ P44 x y z u) (k : ∀ x, ∀ y, ∀ z, ∀ u, P40 x y z u → P41 x y z u → P42 x y z u → P43 x y z u → P44 x y z u → G) : G := h.elim fun m0 h => h.elim fun m1 h => h.elim fun m2 h => h.elim fun m3 h => h.elim fun m4 h => h.elim fun m5 h => h.elim fun m6 h => h.elim fun m7 m8 => k m0 m1 m2 m3 m4 m5 m6 m7 m8
theorem Xeeeeeaaa (h : ∃ x, ∃ y, ∃ z, ∃ u, ∃ v, P50 x y z u v ∧ P51 x y z u v ∧ P52 x y z u v ∧ P53 x y z u v) (k : ∀ x, ∀ y, ∀ z, ∀ u, ∀ v, P50 x y z u v → P51 x y z u v → P52 x y z u v → P53 x y z u v → G) : G := h.elim fun m0 h => h.elim fun m1 h => h.elim fun m2 h => h.elim fun m3 h => h.elim fun m4 h => h.elim fun m5 h => h.elim fun m6 h => h.elim fun m7 m8 => k m0 m1 m2 m3 m4 m5 m6 m7 m8
theorem Xeeeeeeee (h : ∃ x, ∃ y, ∃ z, ∃ u, ∃ v, ∃ w, ∃ p, ∃ q, P80 x y z u v w p q) (k : ∀ x, ∀ y, ∀ z, ∀ u, ∀ v, ∀ w, ∀ p, ∀ q, P80 x y z u v w p q → G) : G := h.elim fun m0 h => h.elim fun m1 h => h.elim fun m2 h => h.elim fun m3 h => h.elim fun m4 h => h.elim fun m5 h => h.elim fun m6 h => h.elim fun m7 m8 => k m0 m1 m2 m3 m4 m5 m6 m7 m8
theorem Xeeeeaaaaa (h : ∃ x, ∃ y, ∃ z, ∃ u, P40 x y z u ∧ P41 x y z u ∧ P42 x y z u ∧ P43 x y z u ∧ P44 x y z u ∧ P45 x y z u) (k : ∀ x, ∀ y, ∀ z, ∀ u, P40 x y z u → P41 x y z u → P42 x y z u → P43 x y z u → P44 x y z u → P45 x y z u → G) : G := h.elim fun m0 h => h.elim fun m1 h => h.elim fun m2 h => h.elim fun m3 h => h.elim fun m4 h => h.elim fun m5 h => h.elim fun m6 h => h.elim fun m7 h => h.elim fun m8 m9 => k m0 m1 m2 m3 m4 m5 m6 m7 m8 m9
theorem Xeeeeeeaaa (h : ∃ x, ∃ y, ∃ z, ∃ u, ∃ v, ∃ w, P60 x y z u v w ∧ P61 x y z u v w ∧ P62 x y z u v w ∧ P63 x y z u v w) (k : ∀ x, ∀ y, ∀ z, ∀ u, ∀ v, ∀ w, P60 x y z u v w → P61 x y z u v w → P62 x y z u v w → P63 x y z u v w → G) : G := h.elim fun m0 h => h.elim fun m1 h => h.elim fun m2 h => h.elim fun m3 h => h.elim fun m4 h => h.elim fun m5 h => h.elim fun m6 h => h.elim fun m7 h => h.elim fun m8 m9 => k m0 m1 m2 m3 m4 m5 m6 m7 m8 m9
theorem Xeeeeeaaaaa (h : ∃ x, ∃ y, ∃ z, ∃ u, ∃ v, P50 x y z u v ∧ P51 x y z u v ∧ P52 x y z u v ∧ P53 x y z u v ∧ P54 x y z u v ∧ P55 x y z u v) (k : ∀ x, ∀ y, ∀ z, ∀ u, ∀ v, P50 x y z u v → P51 x y z u v → P52 x y z u v → P53 x y z u v → P54 x y z u v → P55 x y z u v → G) : G := h.elim fun m0 h => h.elim fun m1 h => h.elim fun m2 h => h.elim fun m3 h => h.elim fun m4 h => h.elim fun m5 h => h.elim fun m6 h => h.elim fun m7 h => h.elim fun m8 h => h.elim fun m9 m10 => k m0 m1 m2 m3 m4 m5 m6 m7 m8 m9 m10
theorem Xeeeeeeeeee (h : ∃ x, ∃ y, ∃ z, ∃ u, ∃ v, ∃ w, ∃ p, ∃ q, ∃ r, ∃ s, P100 x y z u v w p q r s) (k : ∀ x, ∀ y, ∀ z, ∀ u, ∀ v, ∀ w, ∀ p, ∀ q, ∀ r, ∀ s, P100 x y z u v w p q r s → G) : G := h.elim fun m0 h => h.elim fun m1 h => h.elim fun m2 h => h.elim fun m3 h => h.elim fun m4 h => h.elim fun m5 h => h.elim fun m6 h => h.elim fun m7 h => h.elim fun m8 h => h.elim fun m9 m10 => k m0 m1 m2 m3 m4 m5 m6 m7 m8 m9 m10
theorem Xeeeeeeeeeeaa (h : ∃ x, ∃ y, ∃ z, ∃ u, ∃ v, ∃ w, ∃ p, ∃ q, ∃ r, ∃ s, P100 x y z u v w p q r s ∧ P101 x y z u v w p q r s ∧ P102 x y z u v w p q r s) (k : ∀ x, ∀ y, ∀ z, ∀ u, ∀ v, ∀ w, ∀ p, ∀ q, ∀ r, ∀ s, P100 x y z u v w p q r s → P101 x y z u v w p q r s → P102 x y z u v w p q r s → G) : G := h.elim fun m0 h => h.elim fun m1 h => h.elim fun m2 h => h.elim fun m3 h => h.elim fun m4 h => h.elim fun m5 h => h.elim fun m6 h => h.elim fun m7 h => h.elim fun m8 h => h.elim fun m9 h => h.elim fun m10 h => h.elim fun m11 m12 => k m0 m1 m2 m3 m4 m5 m6 m7 m8 m9 m10 m11 m12
theorem Xeeeeeeeeeeaaa (h : ∃ x, ∃ y, ∃ z, ∃ u, ∃ v, ∃ w, ∃ p, ∃ q, ∃ r, ∃ s, P100 x y z u v w p q r s ∧ P101 x y z u v w p q r s ∧ P102 x y z u v w p q r s ∧ P103 x y z u v w p q r s) (k : ∀ x, ∀ y, ∀ z, ∀ u, ∀ v, ∀ w, ∀ p, ∀ q, ∀ r, ∀ s, P100 x y z u v w p q r s → P101 x y z u v w p q r s → P102 x y z u v w p q r s → P103 x y z u v w p q r s → G) : G := h.elim fun m0 h => h.elim fun m1 h => h.elim fun m2 h => h.elim fun m3 h => h.elim fun m4 h => h.elim fun m5 h => h.elim fun m6 h => h.elim fun m7 h => h.elim fun m8 h => h.elim fun m9 h => h.elim fun m10 h => h.elim fun m11 h => h.elim fun m12 m13 => k m0 m1 m2 m3 m4 m5 m6 m7 m8 m9 m10 m11 m12 m13
theorem Iea (x : a) (h1 : P10 x) (h : P11 x) : ∃ x, P10 x ∧ P11 x := ⟨x, h1, h⟩
theorem Iee (x : a) (y : b) (h : P20 x y) : ∃ x, ∃ y, P20 x y := ⟨x, y, h⟩
theorem Ieaa (x : a) (h1 : P10 x) (h2 : P11 x) (h : P12 x) : ∃ x, P10 x ∧ P11 x ∧ P12 x := ⟨x, h1, h2, h⟩
theorem Ieea (x : a) (y : b) (h2 : P20 x y) (h : P21 x y) : ∃ x, ∃ y, P20 x y ∧ P21 x y := ⟨x, y, h2, h⟩
theorem Ieee (x : a) (y : b) (z : c) (h : P30 x y z) : ∃ x, ∃ y, ∃ z, P30 x y z := ⟨x, y, z, h⟩
theorem Iaaea (h0 : P00) (h1 : P01) (x : a) (h3 : P10 x) (h : P11 x) : P00 ∧ P01 ∧ ∃ x, P10 x ∧ P11 x := ⟨h0, h1, x, h3, h⟩
theorem Iaeea (h0 : P00) (x : a) (y : b) (h3 : P20 x y) (h : P21 x y) : P00 ∧ ∃ x, ∃ y, P20 x y ∧ P21 x y := ⟨h0, x, y, h3, h⟩
theorem Ieaaa (x : a) (h1 : P10 x) (h2 : P11 x) (h3 : P12 x) (h : P13 x) : ∃ x, P10 x ∧ P11 x ∧ P12 x ∧ P13 x := ⟨x, h1, h2, h3, h⟩
theorem Ieaae (x : a) (h1 : P10 x) (h2 : P11 x) (y : b) (h : P20 x y) : ∃ x, P10 x ∧ P11 x ∧ ∃ y, P20 x y := ⟨x, h1, h2, y, h⟩
theorem Ieeaa (x : a) (y : b) (h2 : P20 x y) (h3 : P21 x y) (h : P22 x y) : ∃ x, ∃ y, P20 x y ∧ P21 x y ∧ P22 x y := ⟨x, y, h2, h3, h⟩
theorem Ieeea (x : a) (y : b) (z : c) (h3 : P30 x y z) (h : P31 x y z) : ∃ x, ∃ y, ∃ z, P30 x y z ∧ P31 x y z := ⟨x, y, z, h3, h⟩
theorem Ieeee (x : a) (y : b) (z : c) (u : d) (h : P40 x y z u) : ∃ x, ∃ y, ∃ z, ∃ u, P40 x y z u := ⟨x, y, z, u, h⟩
theorem Ieeaaa (x : a) (y : b) (h2 : P20 x y) (h3 : P21 x y) (h4 : P22 x y) (h : P23 x y) : ∃ x, ∃ y, P20 x y ∧ P21 x y ∧ P22 x y ∧ P23 x y := ⟨x, y, h2, h3, h4, h⟩
theorem Ieeeaa (x : a) (y : b) (z : c) (h3 : P30 x y z) (h4 : P31 x y z) (h : P32 x y z) : ∃ x, ∃ y, ∃ z, P30 x y z ∧ P31 x y z ∧ P32 x y z := ⟨x, y, z, h3, h4, h⟩
theorem Ieeaaaa (x : a) (y : b) (h2 : P20 x y) (h3 : P21 x y) (h4 : P22 x y) (h5 : P23 x y) (h : P24 x y) : ∃ x, ∃ y, P20 x y ∧ P21 x y ∧ P22 x y ∧ P23 x y ∧ P24 x y := ⟨x, y, h2, h3, h4, h5, h⟩
theorem Ieeeaaa (x : a) (y : b) (z : c) (h3 : P30 x y z) (h4 : P31 x y z) (h5 : P32 x y z) (h : P33 x y z) : ∃ x, ∃ y, ∃ z, P30 x y z ∧ P31 x y z ∧ P32 x y z ∧ P33 x y z := ⟨x, y, z, h3, h4, h5, h⟩
theorem Ieeeeaa (x : a) (y : b) (z : c) (u : d) (h4 : P40 x y z u) (h5 : P41 x y z u) (h : P42 x y z u) : ∃ x, ∃ y, ∃ z, ∃ u, P40 x y z u ∧ P41 x y z u ∧ P42 x y z u := ⟨x, y, z, u, h4, h5, h⟩
theorem Ieeaaaaa (x : a) (y : b) (h2 : P20 x y) (h3 : P21 x y) (h4 : P22 x y) (h5 : P23 x y) (h6 : P24 x y) (h : P25 x y) : ∃ x, ∃ y, P20 x y ∧ P21 x y ∧ P22 x y ∧ P23 x y ∧ P24 x y ∧ P25 x y := ⟨x, y, h2, h3, h4, h5, h6, h⟩
theorem Ieeeaaaa (x : a) (y : b) (z : c) (h3 : P30 x y z) (h4 : P31 x y z) (h5 : P32 x y z) (h6 : P33 x y z) (h : P34 x y z) : ∃ x, ∃ y, ∃ z, P30 x y z ∧ P31 x y z ∧ P32 x y z ∧ P33 x y z ∧ P34 x y z := ⟨x, y, z, h3, h4, h5, h6, h⟩
theorem Ieeeeaaa (x : a) (y : b) (z : c) (u : d) (h4 : P40 x y z u) (h5 : P41 x y z u) (h6 : P42 x y z u) (h : P43 x y z u) : ∃ x, ∃ y, ∃ z, ∃ u, P40 x y z u ∧ P41 x y z u ∧ P42 x y z u ∧ P43 x y z u := ⟨x, y, z, u, h4, h5, h6, h⟩
theorem Ieeeaaaaa (x : a) (y : b) (z : c) (h3 : P30 x y z) (h4 : P31 x y z) (h5 : P32 x y z) (h6 : P33 x y z) (h7 : P34 x y z) (h : P35 x y z) : ∃ x, ∃ y, ∃ z, P30 x y z ∧ P31 x y z ∧ P32 x y z ∧ P33 x y z ∧ P34 x y z ∧ P35 x y z := ⟨x, y, z, h3, h4, h5, h6, h7, h⟩
theorem Ieeeeaaaa (x : a) (y : b) (z : c) (u : d) (h4 : P40 x y z u) (h5 : P41 x y z u) (h6 : P42 x y z u) (h7 : P43 x y z u) (h : P44 x y z u) : ∃ x, ∃ y, ∃ z, ∃ u, P40 x y z u ∧ P41 x y z u ∧ P42 x y z u ∧ P43 x y z u ∧ P44 x y z u := ⟨x, y, z, u, h4, h5, h6, h7, h⟩
theorem Ieeeeeaaa (x : a) (y : b) (z : c) (u : d) (v : e) (h5 : P50 x y z u v) (h6 : P51 x y z u v) (h7 : P52 x y z u v) (h : P53 x y z u v) : ∃ x, ∃ y, ∃ z, ∃ u, ∃ v, P50 x y z u v ∧ P51 x y z u v ∧ P52 x y z u v ∧ P53 x y z u v := ⟨x, y, z, u, v, h5, h6, h7, h⟩
theorem Ieeeeeeee (x : a) (y : b) (z : c) (u : d) (v : e) (w : f) (p : g) (q : i) (h : P80 x y z u v w p q) : ∃ x, ∃ y, ∃ z, ∃ u, ∃ v, ∃ w, ∃ p, ∃ q, P80 x y z u v w p q := ⟨x, y, z, u, v, w, p, q, h⟩
theorem Ieeeeeaaaaa (x : a) (y : b) (z : c) (u : d) (v : e) (h5 : P50 x y z u v) (h6 : P51 x y z u v) (h7 : P52 x y z u v) (h8 : P53 x y z u v) (h9 : P54 x y z u v) (h : P55 x y z u v) : ∃ x, ∃ y, ∃ z, ∃ u, ∃ v, P50 x y z u v ∧ P51 x y z u v ∧ P52 x y z u v ∧ P53 x y z u v ∧ P54 x y z u v ∧ P55 x y z u v := ⟨x, y, z, u, v, h5, h6, h7, h8, h9, h⟩
theorem Ieeeeeeeeee (x : a) (y : b) (z : c) (u : d) (v : e) (w : f) (p : g) (q : i) (r : j) (s : l) (h : P100 x y z u v w p q r s) : ∃ x, ∃ y, ∃ z, ∃ u, ∃ v, ∃ w, ∃ p, ∃ q, ∃ r, ∃ s, P100 x y z u v w p q r s := ⟨x, y, z, u, v, w, p, q, r, s, h⟩
theorem Ieaeeeeeeaaa (x : a) (h1 : P10 x) (y : b) (z : c) (u : d) (v : e) (w : f) (p : g) (h8 : P70 x y z u v w p) (h9 : P71 x y z u v w p) (h10 : P72 x y z u v w p) (h : P73 x y z u v w p) : ∃ x, P10 x ∧ ∃ y, ∃ z, ∃ u, ∃ v, ∃ w, ∃ p, P70 x y z u v w p ∧ P71 x y z u v w p ∧ P72 x y z u v w p ∧ P73 x y z u v w p := ⟨x, h1, y, z, u, v, w, p, h8, h9, h10, h⟩
theorem Ieeeeeeeeeeaa (x : a) (y : b) (z : c) (u : d) (v : e) (w : f) (p : g) (q : i) (r : j) (s : l) (h10 : P100 x y z u v w p q r s) (h11 : P101 x y z u v w p q r s) (h : P102 x y z u v w p q r s) : ∃ x, ∃ y, ∃ z, ∃ u, ∃ v, ∃ w, ∃ p, ∃ q, ∃ r, ∃ s, P100 x y z u v w p q r s ∧ P101 x y z u v w p q r s ∧ P102 x y z u v w p q r s := ⟨x, y, z, u, v, w, p, q, r, s, h10, h11, h⟩
theorem Ieeeeeeeeeeaaa (x : a) (y : b) (z : c) (u : d) (v : e) (w : f) (p : g) (q : i) (r : j) (s : l) (h10 : P100 x y z u v w p q r s) (h11 : P101 x y z u v w p q r s) (h12 : P102 x y z u v w p q r s) (h : P103 x y z u v w p q r s) : ∃ x, ∃ y, ∃ z, ∃ u, ∃ v, ∃ w, ∃ p, ∃ q, ∃ r, ∃ s, P100 x y z u v w p q r s ∧ P101 x y z u v w p q r s ∧ P102 x y z u v w p q r s ∧ P103 x y z u v w p q r s := ⟨x, y, z, u, v, w, p, q, r, s, h10, h11, h12, h⟩
theorem Ieeeaaaeeaaeeaa (x : a) (y : b) (z : c) (h3 : P30 x y z) (h4 : P31 x y z) (h5 : P32 x y z) (u : d) (v : e) (h8 : P50 x y z u v) (h9 : P51 x y z u v) (w : f) (p : g) (h12 : P70 x y z u v w p) (h13 : P71 x y z u v w p) (h : P72 x y z u v w p) : ∃ x, ∃ y, ∃ z, P30 x y z ∧ P31 x y z ∧ P32 x y z ∧ ∃ u, ∃ v, P50 x y z u v ∧ P51 x y z u v ∧ ∃ w, ∃ p, P70 x y z u v w p ∧ P71 x y z u v w p ∧ P72 x y z u v w p := ⟨x, y, z, h3, h4, h5, u, v, h8, h9, w, p, h12, h13, h⟩
end
theorem lsT {α : Type} {n : Nat} {vs : List α} (h : vs.length = n + 1) : ∃ a r, vs = a :: r ∧ r.length = n := by
 cases vs with
 | nil => cases h
 | cons a r => exact ⟨a, r, rfl, Nat.succ.inj h⟩
theorem sub_S {n i : Nat} (h : i < n) : n - i = n - (i + 1) + 1 := (Nat.succ_pred_eq_of_pos (Nat.sub_pos_of_lt h)).symm
theorem tw {l r a b : Nat} (h : l + 1 = 2 * a) (h2 : r + 1 = 2 * b) : l + r + 1 + 1 = 2 * (a + b) := by omega
theorem c_neg {i : Nat} : ¬ ((i : Int) < 0) := by omega
theorem c_rng {i : Nat} (h : i < 1000) : (0 : Int) ≤ (i : Nat) ∧ ((i : Nat) : Int) < 1000 := by omega
theorem rm_d {u k c : Nat} (h : u + (k + 1) < c) : u + 1 + k < c := by omega
theorem rm_u {u k c : Nat} (h : u + 10 * (k + 1) + 20 < c) : u + 3 + 10 * k + 20 < c := by omega
theorem rm_0 {u k c : Nat} (h : u + 10 * k + 20 < c) : u < c := by omega
theorem mul7 {k n : Nat} (h : n + 1 = 2 * k) (h2 : k ≤ 7) : n ≤ 13 := by omega
end Mine
end
section
local macro_rules
 | `(tactic| cases $h:ident) => `(tactic| first | exact Mine.nosome $h | exact Mine.nosome' $h | exact Mine.noft $h | exact Mine.notf $h | (haveI q : _ = _ := $h; clear $h; subst q) | (haveI q := Mine.sinj $h; clear $h; first | subst q | cases q) | (haveI q := Mine.pj1 $h; haveI q2 := Mine.pj2 $h; clear $h; (first | subst q | cases q); (first | subst q2 | cases q2)) | exact Mine.D.noConfusion $h | exact Mine.Slot.noConfusion $h | exact Mine.Fl.noConfusion $h | exact PySem.Value.noConfusion $h | fail)
 | `(tactic| injection $h:ident with $x:ident) => `(tactic| (haveI $x := Mine.sinj $h; clear $h))
 | `(tactic| nomatch $h:ident, $q:ident) => `(tactic| ((revert $q; first | refine Mine.sp $h ?_ | refine Mine.spp $h ?_ | cases $h:ident); intro $q:ident))
section
open PySem PySem.W PySem.Calls PyProof.Rows
namespace Mine
theorem kr {p : Prop} (h : p := by kernel_rfl) : p := h
theorem dc {p : Prop} (h : p := by decide) : p := h
theorem inL {p q : Prop} (h : p := by kernel_rfl) : p ∨ q := .inl h
inductive BindS {α β : Type} (x : Option α) (g : α → Option β) (r : β) : Prop
 | mk (a : α) (h1 : x = some a) (h2 : g a = some r) : BindS x g r
theorem ns {α : Type} {x : α} {P : Prop} (h : (none : Option α) = some x) : P := by cases h
theorem sp {α β : Type} {a c : α} {b d : β} {M : α → β → Prop} (h : some (a, b) = some (c, d)) (k : M a b) : M c d := by cases h; exact k
theorem spp {α β : Type} {a c : α} {b d : β} {M : α → β → Prop} (h : (a, b) = (c, d)) (k : M a b) : M c d := by cases h; exact k
inductive MapS {α β : Type} (x : Option α) (g : α → β) (r : β) : Prop
 | mk (a : α) (h1 : x = some a) (h2 : g a = r) : MapS x g r
theorem msm {α β : Type} {x : Option α} {g : α → β} {r : β} (h : x.map g = some r) : MapS x g r := by
 cases x with
 | none => cases h
 | some a => exact ⟨a, rfl, Option.some.inj h⟩
theorem bs1 {α β : Type} {x : Option α} {g : α → Option β} {r : β} {G : Prop} (h : x.bind g = some r) (k : ∀ a, x = some a → g a = some r → G) : G := by
 cases x with
 | none => cases h
 | some a => exact k a rfl h
theorem bs2 {α γ β : Type} {x : Option (α × γ)} {g : α × γ → Option β} {r : β} {G : Prop} (h : x.bind g = some r) (k : ∀ a b, x = some (a, b) → g (a, b) = some r → G) : G := bs1 h fun a => k a.1 a.2
theorem ms1 {α β : Type} {x : Option α} {g : α → β} {r : β} {G : Prop} (h : x.map g = some r) (k : ∀ a, x = some a → g a = r → G) : G := by
 cases x with
 | none => cases h
 | some a => exact k a rfl (Option.some.inj h)
theorem ms2 {α γ β : Type} {x : Option (α × γ)} {g : α × γ → β} {r : β} {G : Prop} (h : x.map g = some r) (k : ∀ a b, x = some (a, b) → g (a, b) = r → G) : G := ms1 h fun a => k a.1 a.2
noncomputable abbrev Mp := Addr → Option Obj
noncomputable def Mp.upd (P : Mp) (a : Addr) (o : Obj) : Mp := fun b => if b = a then some o else P b
noncomputable def Mp.del (P : Mp) (a : Addr) : Mp := fun b => if b = a then none else P b
theorem Mp.upd_self (P : Mp) (a : Addr) (o : Obj) : P.upd a o a = some o := if_pos rfl
theorem Mp.upd_ne (P : Mp) {a b : Addr} (o : Obj) (h : b ≠ a) : P.upd a o b = P b := if_neg h
theorem Mp.del_self (P : Mp) (a : Addr) : P.del a a = none := if_pos rfl
theorem Mp.del_ne (P : Mp) {a b : Addr} (h : b ≠ a) : P.del a b = P b := if_neg h
noncomputable def Mp.Le (P P' : Mp) : Prop := ∀ a o, P a = some o → P' a = some o
theorem Mp.Le.refl (P : Mp) : P.Le P := fun _ _ e => e
theorem Mp.Le.trans {P Q R : Mp} (h : P.Le Q) (g : Q.Le R) : P.Le R := fun a o e => g a o (h a o e)
theorem Mp.Le.upd {P : Mp} {a : Addr} {o : Obj} (h : P a = none) : P.Le (P.upd a o) := fun b o' e => by
 by_cases hb : b = a
 · subst hb; rw [h] at e; cases e
 · rw [Mp.upd_ne _ _ hb]; exact e
structure Cx where
 prog : Program
 w : World
 H : Heap
 s0 : Shared
 K : Frag
 p : Program
 loose : List Str
 mean : ExcName → Option Value
 mg : Str → Option Value
 mb : Str → Option Value
 hc : Addr
 b0 : Addr
 lo : ∃ a o, sysModules < a ∧ H.get? a = some o
noncomputable abbrev Cx.M (C : Cx) : Model := model C.prog C.w
structure Cx.OK (C : Cx) : Prop where
 X : C.K.In C.H
 T : Top C.p C.loose C.mean C.mg C.mb C.H
structure St (C : Cx) (P W : Mp) (s : Shared) : Prop where
 gens : s.gens = C.s0.gens
 drawn : s.drawn = C.s0.drawn
 os : s.os = C.s0.os
 base : ∀ a o, C.H.get? a = some o → P a = some o
 p : ∀ a o, P a = some o → s.heap.get? a = some o
 w : ∀ a o, W a = some o → s.heap.get? a = some o ∧ P a = none
section
variable {C : Cx} {P P' W W' : Mp} {s : Shared} {h' : Heap} {tk : Nat}
theorem St.keepH (S : St C P W s) : ∀ a o, C.H.get? a = some o → s.heap.get? a = some o := fun a o e => S.p a o (S.base a o e)
theorem St.big (S : St C P W s) : sysModules < s.heap.objs.size := let ⟨_, _, h1, h2⟩ := C.lo; Nat.lt_trans h1 (Heap.lt_size (S.keepH _ _ h2))
theorem St.freshP (S : St C P W s) : P s.heap.objs.size = none := by
 cases e : P s.heap.objs.size with
 | none => rfl
 | some o => exact absurd (Heap.lt_size (S.p _ _ e)) (Nat.lt_irrefl _)
theorem St.freshW (S : St C P W s) : W s.heap.objs.size = none := by
 cases e : W s.heap.objs.size with
 | none => rfl
 | some o => exact absurd (Heap.lt_size (S.w _ _ e).1) (Nat.lt_irrefl _)
theorem St.toks (S : St C P W s) (tk : Nat) : St C P W { s with toks := tk } := ⟨S.gens, S.drawn, S.os, S.base, S.p, S.w⟩
theorem St.heap (S : St C P W s) (hp : ∀ a o, P a = some o → h'.get? a = some o) (hw : ∀ a o, W a = some o → h'.get? a = some o) : St C P W { s with heap := h', toks := tk } :=
 ⟨S.gens, S.drawn, S.os, S.base, hp, fun a o e => ⟨hw a o e, (S.w a o e).2⟩⟩
theorem St.ext (S : St C P W s) (hk : ∀ a o, s.heap.get? a = some o → h'.get? a = some o) : St C P W { s with heap := h', toks := tk } :=
 S.heap (fun a o e => hk a o (S.p a o e)) fun a o e => hk a o (S.w a o e).1
theorem St.newP (S : St C P W s) {o : Obj} (ho : o.isFreed = false) : St C (P.upd s.heap.objs.size o) W { s with heap := s.heap.push o, toks := tk } :=
 ⟨S.gens, S.drawn, S.os, fun a o e => Mp.Le.upd S.freshP _ _ (S.base a o e), fun a o' e => by
   by_cases ha : a = s.heap.objs.size
   · subst ha; rw [Mp.upd_self] at e; cases e; exact Heap.get?_push_size _ ho
   · rw [Mp.upd_ne _ _ ha] at e; exact Heap.get?_push_of_some _ (S.p a o' e), fun a o' e => by
   refine ⟨Heap.get?_push_of_some _ (S.w a o' e).1, ?_⟩
   rw [Mp.upd_ne]
   · exact (S.w a o' e).2
   · rintro rfl; rw [S.freshW] at e; cases e⟩
theorem St.newW (S : St C P W s) {o : Obj} (ho : o.isFreed = false) : St C P (W.upd s.heap.objs.size o) { s with heap := s.heap.push o, toks := tk } :=
 ⟨S.gens, S.drawn, S.os, S.base, fun a o' e => Heap.get?_push_of_some _ (S.p a o' e), fun a o' e => by
   by_cases ha : a = s.heap.objs.size
   · subst ha; rw [Mp.upd_self] at e; cases e; exact ⟨Heap.get?_push_size _ ho, S.freshP⟩
   · rw [Mp.upd_ne _ _ ha] at e; exact ⟨Heap.get?_push_of_some _ (S.w a o' e).1, (S.w a o' e).2⟩⟩
theorem St.setW (S : St C P W s) {a : Addr} {o o' : Obj} (ha : W a = some o) (hs : Heap.SameBut a s.heap h') (ho : h'.get? a = some o') : St C P (W.upd a o') { s with heap := h', toks := tk } :=
 ⟨S.gens, S.drawn, S.os, S.base, fun b ob e => (hs.2 b (by rintro rfl; rw [(S.w _ _ ha).2] at e; cases e)).trans (S.p b ob e), fun b ob e => by
   by_cases hb : b = a
   · subst hb; rw [Mp.upd_self] at e; cases e; exact ⟨ho, (S.w _ _ ha).2⟩
   · rw [Mp.upd_ne _ _ hb] at e; exact ⟨(hs.2 b hb).trans (S.w b ob e).1, (S.w b ob e).2⟩⟩
theorem St.freeze (S : St C P W s) {a : Addr} {o : Obj} (ha : W a = some o) : St C (P.upd a o) (W.del a) s :=
 ⟨S.gens, S.drawn, S.os, fun b ob e => Mp.Le.upd (S.w _ _ ha).2 _ _ (S.base b ob e), fun b ob e => by
   by_cases hb : b = a
   · subst hb; rw [Mp.upd_self] at e; cases e; exact (S.w _ _ ha).1
   · rw [Mp.upd_ne _ _ hb] at e; exact S.p b ob e, fun b ob e => by
   by_cases hb : b = a
   · subst hb; rw [Mp.del_self] at e; cases e
   · rw [Mp.del_ne _ hb] at e; exact ⟨(S.w b ob e).1, by rw [Mp.upd_ne _ _ hb]; exact (S.w b ob e).2⟩⟩
theorem St.less (S : St C P W s) (h : ∀ a o, W' a = some o → W a = some o) : St C P W' s := ⟨S.gens, S.drawn, S.os, S.base, S.p, fun a o e => S.w a o (h a o e)⟩
end
inductive KS where
 | s (x : Str)
 | i (n : Int)
 deriving DecidableEq
noncomputable abbrev LT := List (List KS × Int)
inductive D where
 | none
 | bool (b : Bool)
 | int (i : Int)
 | str (x : Str)
 | tup (xs : List D)
 | list (xs : List D)
 | dI (es : List (Int × D))
 | dT (es : LT)
 | hdr (xs : List D)
 | typ (n : String)
 | raw (v : Value)
 | inst (a : Addr)
 deriving Inhabited
noncomputable def IsLst (o : Obj) (vs : List Value) : Prop := ∃ n, o = { cls := .type "list", dict := none, data := .seq vs.toArray n, slots := #[] }
noncomputable def IsTupO (o : Obj) (vs : List Value) : Prop := ∃ n, o = { cls := .type "tuple", dict := none, data := .seq vs.toArray n, slots := #[] }
theorem IsLst.list {o : Obj} {vs : List Value} {h : Heap} {a : Addr} (x : IsLst o vs) (e : h.get? a = some o) : h.IsList a vs.toArray := by
 refine Xe x fun n q1 => ?_; subst q1; exact Ieaae _ e rfl n rfl
theorem IsTupO.tup {o : Obj} {vs : List Value} {h : Heap} {a : Addr} (x : IsTupO o vs) (e : h.get? a = some o) : IsTup h a vs.toArray := by
 refine Xe x fun n q1 => ?_; subst q1; exact Ieaae _ e rfl n rfl
noncomputable def ksIs : KS → Value → Bool
 | .s x, v => Value.isStrOf x v
 | .i n, v => Value.isInt n v
noncomputable def ksHash (w : World) : KS → Int
 | .s x => hashStr w x
 | .i n => hashInt n
theorem ksIs_s {x : Str} {v : Value} (h : ksIs (.s x) v = true) : ∃ t, v = .str x t := Value.isStrOf_shape h
theorem ksIs_i {n : Int} {v : Value} (h : ksIs (.i n) v = true) : ∃ t, v = .int n t := Value.isInt_shape h
theorem eqBool_str_int {prog : Program} {w : World} {A : Around} {E : Value → Shared → Prop} {s : Shared} {x : Str} {t u : Tok} {n : Int} {Q : Bool → Shared → Prop} (h : Q false s) : wpAny (model prog w) A (eqBool (.str x t) (.int n u)) Q E s := by
 unfold eqBool
 refine wpAny_holding ?_
 rw [if_neg (by simp)]
 exact wpAny_bind (EqMixed.eq_str_int (wpAny_truthy_bool h))
theorem eqBool_int_str {prog : Program} {w : World} {A : Around} {E : Value → Shared → Prop} {s : Shared} {x : Str} {t u : Tok} {n : Int} {Q : Bool → Shared → Prop} (h : Q false s) : wpAny (model prog w) A (eqBool (.int n u) (.str x t)) Q E s := by
 unfold eqBool
 refine wpAny_holding ?_
 rw [if_neg (by simp)]
 exact wpAny_bind (EqMixed.eq_int_str (wpAny_truthy_bool h))
theorem ks_beq {n n' : Int} {s : Shared} {Q : Bool → Shared → Prop} (h : Q (decide (KS.i n = KS.i n')) s) : Q (n == n') s := by
 have e : (n == n') = decide (KS.i n = KS.i n') := by
   by_cases h : n = n'
   · subst h; simp
   · simp [h]
 rw [e]; exact h
noncomputable def ksKind (prog : Program) (w : World) : KeyKind prog w KS where
 is := ksIs
 hash := ksHash w
 inj := fun v a b ha hb => by
   cases a <;> cases b
   · refine Xe (ksIs_s ha) fun t q1 => ?_; subst q1; refine Xe (ksIs_s hb) fun u e => ?_; injection e with e; rw [e]
   · refine Xe (ksIs_s ha) fun t q1 => ?_; subst q1; refine Xe (ksIs_i hb) fun u e => ?_; cases e
   · refine Xe (ksIs_i ha) fun t q1 => ?_; subst q1; refine Xe (ksIs_s hb) fun u e => ?_; cases e
   · refine Xe (ksIs_i ha) fun t q1 => ?_; subst q1; refine Xe (ksIs_i hb) fun u e => ?_; injection e with e; rw [e]
 byValue := fun k v h => by
   cases k
   · refine Xe (ksIs_s h) fun t q1 => ?_; subst q1; rfl
   · refine Xe (ksIs_i h) fun t q1 => ?_; subst q1; rfl
 pyHash := fun {A E s k v Q} h hQ => by
   cases k
   · refine Xe (ksIs_s h) fun t q1 => ?_; subst q1; exact wpAny_pyHash_str hQ
   · refine Xe (ksIs_i h) fun t q1 => ?_; subst q1; exact wpAny_pyHash_int hQ
 eqBool := fun {A E s a b u v Q} ha hb hQ => by
   cases a <;> cases b
   · refine Xe (ksIs_s ha) fun t q1 => ?_; subst q1; refine Xe (ksIs_s hb) fun t' q1 => ?_; subst q1; exact wpAny_eqBool_str (by simpa using hQ)
   · refine Xe (ksIs_s ha) fun t q1 => ?_; subst q1; refine Xe (ksIs_i hb) fun t' q1 => ?_; subst q1; exact eqBool_str_int (by simpa using hQ)
   · refine Xe (ksIs_i ha) fun t q1 => ?_; subst q1; refine Xe (ksIs_s hb) fun t' q1 => ?_; subst q1; exact eqBool_int_str (by simpa using hQ)
   · refine Xe (ksIs_i ha) fun t q1 => ?_; subst q1; refine Xe (ksIs_i hb) fun t' q1 => ?_; subst q1; exact wpAny_eqBool_int (ks_beq hQ)
 «strs» := fun k x t v h => by
   cases k
   · refine Xe (ksIs_s h) fun u hu => ?_
     injection hu with hx
     subst hx
     cases v <;> rfl
   · refine Xe (ksIs_i h) fun u hu => ?_; cases hu
noncomputable abbrev Cx.kt (C : Cx) : HeapKind C.prog C.w (List KS) := tupleKind (ksKind C.prog C.w)
noncomputable abbrev Cx.ki (C : Cx) : KeyKind C.prog C.w Int := intKind C.prog C.w
noncomputable def HdrAt (hc : Addr) (P : Mp) (a l : Addr) : Prop :=
 ∃ dx sl en, P a = some (⟨.ref hc, some dx, .plain, sl⟩ : Obj) ∧ P dx = some (dictOf [en] 1) ∧ en.key.isStr "_headers" = true ∧ en.val = .ref l
inductive TR (p : Program) (w : World) (P : Mp) : LT → List (List KS × Addr × Value) → Prop
 | nil : TR p w P [] []
 | cons {ks : List KS} {n : Int} {a : Addr} {t : Tok} {ok : Obj} {vs : List Value} {es : LT} {xs : List (List KS × Addr × Value)} :
     P a = some ok → IsTupO ok vs → ItemsAre (ksKind p w) ks vs → TR p w P es xs → TR p w P ((ks, n) :: es) ((ks, a, .int n t) :: xs)
noncomputable def IsDctT (C : Cx) (P : Mp) (o : Obj) (es : LT) : Prop :=
 ∃ xs dE ep, o.ExactDict ∧ o.data = .dict dE ep ∧ dE.toList = xs.map (entryOfKey C.kt) ∧ (es.map (·.1)).Nodup ∧ TR C.prog C.w P es xs
mutual
noncomputable def Rep (C : Cx) (P : Mp) : D → Value → Prop
 | .none, v => v = .none
 | .bool b, v => v = .bool b
 | .int i, v => ∃ t, v = .int i t
 | .str x, v => ∃ t, v = .str x t
 | .tup xs, v => ∃ a o vs, v = .ref a ∧ P a = some o ∧ IsTupO o vs ∧ Reps C P xs vs
 | .list xs, v => ∃ a o vs, v = .ref a ∧ P a = some o ∧ IsLst o vs ∧ Reps C P xs vs
 | .dI es, v => ∃ a o kvs, v = .ref a ∧ P a = some o ∧ o.IsDictOf C.ki kvs ∧ RepI C P es kvs ∧ sysModules < a
 | .dT es, v => ∃ a o, v = .ref a ∧ P a = some o ∧ IsDctT C P o es ∧ sysModules < a
 | .hdr xs, v => ∃ a l o vs, v = .ref a ∧ HdrAt C.hc P a l ∧ P l = some o ∧ IsLst o vs ∧ Reps C P xs vs
 | .typ n, v => v = .type n
 | .raw u, v => v = u
 | .inst a, v => v = .ref a ∧ ∃ l, HdrAt C.hc P a l
noncomputable def Reps (C : Cx) (P : Mp) : List D → List Value → Prop
 | [], vs => vs = []
 | x :: xs, vs => ∃ v r, vs = v :: r ∧ Rep C P x v ∧ Reps C P xs r
noncomputable def RepI (C : Cx) (P : Mp) : List (Int × D) → List (Int × Value) → Prop
 | [], kvs => kvs = []
 | (k, x) :: es, kvs => ∃ v r, kvs = (k, v) :: r ∧ Rep C P x v ∧ RepI C P es r
end
section
variable {C : Cx} {P P' : Mp}
theorem HdrAt.mono {hc a l : Addr} (h : P.Le P') (x : HdrAt hc P a l) : HdrAt hc P' a l := Xeeeaaa x fun dx sl en h1 h3 h4 h5 => Ieeeaaa dx sl en (h _ _ h1) (h _ _ h3) h4 h5
theorem TR.mono {p : Program} {w : World} (h : P.Le P') {es : LT} {xs : List (List KS × Addr × Value)} (t : TR p w P es xs) : TR p w P' es xs := by
 induction t with
 | nil => exact .nil
 | cons a b c _ ih => exact .cons (h _ _ a) b c ih
theorem IsDctT.mono (h : P.Le P') {o : Obj} {es : LT} (x : IsDctT C P o es) : IsDctT C P' o es := Xeeeaaaa x fun xs dE ep h1 h2 h3 h4 h5 => ⟨xs, dE, ep, h1, h2, h3, h4, h5.mono h⟩
mutual
theorem Rep.mono (h : P.Le P') (d : D) : ∀ {v : Value}, Rep C P d v → Rep C P' d v := by
 cases d with
 | tup xs => exact fun e => Xeeeaaa e fun a o vs e1 e2 e3 e4 => Ieeeaaa a o vs e1 (h _ _ e2) e3 (Reps.mono h xs e4)
 | list xs => exact fun e => Xeeeaaa e fun a o vs e1 e2 e3 e4 => Ieeeaaa a o vs e1 (h _ _ e2) e3 (Reps.mono h xs e4)
 | dI es => exact fun e => Xeeeaaaa e fun a o en e1 e2 e3 e4 e5 => ⟨a, o, en, e1, h _ _ e2, e3, RepI.mono h es e4, e5⟩
 | dT _ => exact fun e => Xeeaaa e fun a o e1 e2 e3 e4 => ⟨a, o, e1, h _ _ e2, e3.mono h, e4⟩
 | hdr xs => exact fun e => Xeeeeaaaa e fun a l o vs e1 e2 e3 e4 e5 => ⟨a, l, o, vs, e1, e2.mono h, h _ _ e3, e4, Reps.mono h xs e5⟩
 | inst _ => exact fun e => Xa e fun e x => ⟨e, Xe x fun l x => ⟨l, x.mono h⟩⟩
 | _ => exact fun e => e
theorem Reps.mono (h : P.Le P') (xs : List D) : ∀ {vs : List Value}, Reps C P xs vs → Reps C P' xs vs := by
 cases xs with
 | nil => exact fun e => e
 | cons x xs => exact fun e => Xeeaa e fun v r e1 e2 e3 => Ieeaa v r e1 (Rep.mono h x e2) (Reps.mono h xs e3)
theorem RepI.mono (h : P.Le P') (es : List (Int × D)) : ∀ {kvs : List (Int × Value)}, RepI C P es kvs → RepI C P' es kvs := by
 cases es with
 | nil => exact fun e => e
 | cons p es => cases p with
   | mk k x => exact fun e => Xeeaa e fun v r e1 e2 e3 => Ieeaa v r e1 (Rep.mono h x e2) (RepI.mono h es e3)
end
theorem Reps.length {xs : List D} : ∀ {vs : List Value}, Reps C P xs vs → xs.length = vs.length := by
 induction xs with
 | nil => intro vs e; rw [show vs = [] from e]; rfl
 | cons x xs ih => intro vs e; refine Xeeaa e fun v r e1 _ e3 => ?_; subst e1; exact congrArg (· + 1) (ih e3)
theorem Reps.get {xs : List D} : ∀ {vs : List Value} (i : Nat) {d : D}, Reps C P xs vs → xs[i]? = some d → ∃ v, vs[i]? = some v ∧ Rep C P d v := by
 induction xs with
 | nil => intro vs i d _ e; exact nosome (List.getElem?_nil.symm.trans e)
 | cons x xs ih =>
   intro vs i d r e
   refine Xeeaa r fun v r e1 e2 e3 => ?_
   subst e1
   cases i with
   | zero => obtain rfl := sinj (show some x = some d from e); exact ⟨v, rfl, e2⟩
   | succ i => exact ih i e3 e
theorem Reps.append {xs ys : List D} : ∀ {vs us : List Value}, Reps C P xs vs → Reps C P ys us → Reps C P (xs ++ ys) (vs ++ us) := by
 induction xs with
 | nil => intro vs us e f; rw [show vs = [] from e]; exact f
 | cons x xs ih => intro vs us e f; refine Xeeaa e fun v r e1 e2 e3 => ?_; subst e1; exact Ieeaa v (r ++ us) rfl e2 (ih e3 f)
theorem Reps.take {xs : List D} : ∀ {vs : List Value} (n : Nat), Reps C P xs vs → Reps C P (xs.take n) (vs.take n) := by
 induction xs with
 | nil => intro vs n e; rw [show vs = [] from e, List.take_nil, List.take_nil]; rfl
 | cons x xs ih =>
   intro vs n e
   cases n with
   | zero => rfl
   | succ n => refine Xeeaa e fun v r e1 e2 e3 => ?_; subst e1; exact Ieeaa v (r.take n) rfl e2 (ih n e3)
theorem Reps.drop {xs : List D} : ∀ {vs : List Value} (n : Nat), Reps C P xs vs → Reps C P (xs.drop n) (vs.drop n) := by
 induction xs with
 | nil => intro vs n e; rw [show vs = [] from e, List.drop_nil, List.drop_nil]; rfl
 | cons x xs ih =>
   intro vs n e
   cases n with
   | zero => exact e
   | succ n => refine Xeeaa e fun v r e1 e2 e3 => ?_; subst e1; exact ih n e3
theorem Reps.set {xs : List D} : ∀ {vs : List Value} (i : Nat) {d : D} {v : Value}, Reps C P xs vs → Rep C P d v → Reps C P (xs.set i d) (vs.set i v) := by
 induction xs with
 | nil => intro vs i d v e _; rw [show vs = [] from e]; rfl
 | cons x xs ih =>
   intro vs i d v e h
   refine Xeeaa e fun u r e1 e2 e3 => ?_
   subst e1
   cases i with
   | zero => exact Ieeaa v r rfl h e3
   | succ i => exact Ieeaa u (r.set i v) rfl e2 (ih i e3 h)
theorem Reps.one {d : D} {v : Value} (h : Rep C P d v) : Reps C P [d] [v] := ⟨v, [], rfl, h, rfl⟩
theorem Reps.nil : Reps C P [] [] := rfl
theorem RepI.length {es : List (Int × D)} : ∀ {kvs : List (Int × Value)}, RepI C P es kvs → es.length = kvs.length := by
 induction es with
 | nil => intro kvs e; rw [show kvs = [] from e]; rfl
 | cons p es ih => intro kvs e; obtain ⟨j, x⟩ := p; refine Xeeaa e fun v r e1 _ e3 => ?_; subst e1; exact congrArg (· + 1) (ih e3)
noncomputable def atI (es : List (Int × D)) (k : Int) : Option D := (es.find? fun e => e.1 = k).map (·.2)
noncomputable def putI (es : List (Int × D)) (k : Int) (d : D) : List (Int × D) := if es.any (fun e => e.1 = k) then es.map (fun e => if e.1 = k then (e.1, d) else e) else es ++ [(k, d)]
theorem at_hit {es : List (Int × D)} {k : Int} {x : D} : atI ((k, x) :: es) k = some x := by unfold atI; rw [List.find?_cons, decide_eq_true rfl]; rfl
theorem at_miss {es : List (Int × D)} {j k : Int} {x : D} (h : ¬ j = k) : atI ((j, x) :: es) k = atI es k := by unfold atI; rw [List.find?_cons, decide_eq_false h]
theorem va_hit {es : List (Int × Value)} {k : Int} {x : Value} : valueAt ((k, x) :: es) k = some x := by unfold valueAt; rw [List.find?_cons, decide_eq_true rfl]; rfl
theorem va_miss {es : List (Int × Value)} {j k : Int} {x : Value} (h : ¬ j = k) : valueAt ((j, x) :: es) k = valueAt es k := by unfold valueAt; rw [List.find?_cons, decide_eq_false h]
theorem RepI.at_none {es : List (Int × D)} : ∀ {kvs : List (Int × Value)} {k : Int}, RepI C P es kvs → atI es k = none → valueAt kvs k = none := by
 induction es with
 | nil => intro kvs k e _; rw [show kvs = [] from e]; rfl
 | cons p es ih =>
   intro kvs k e h
   obtain ⟨j, x⟩ := p
   refine Xeeaa e fun v r e1 e2 e3 => ?_
   subst e1
   by_cases hj : j = k
   · subst hj; exact nosome (h.symm.trans at_hit)
   · rw [va_miss hj]; exact ih e3 ((at_miss hj).symm.trans h)
theorem RepI.at_some {es : List (Int × D)} : ∀ {kvs : List (Int × Value)} {k : Int} {d : D}, RepI C P es kvs → atI es k = some d → ∃ v, valueAt kvs k = some v ∧ Rep C P d v := by
 induction es with
 | nil => intro kvs k d e h; exact nosome h
 | cons p es ih =>
   intro kvs k d e h
   obtain ⟨j, x⟩ := p
   refine Xeeaa e fun v r e1 e2 e3 => ?_
   subst e1
   by_cases hj : j = k
   · subst hj; obtain rfl := sinj (at_hit.symm.trans h); exact ⟨v, va_hit, e2⟩
   · rw [va_miss hj]; exact ih e3 ((at_miss hj).symm.trans h)
theorem RepI.any {es : List (Int × D)} : ∀ {kvs : List (Int × Value)} {k : Int}, RepI C P es kvs → kvs.any (fun e => e.1 = k) = es.any (fun e => e.1 = k) := by
 induction es with
 | nil => intro kvs k e; rw [show kvs = [] from e]; rfl
 | cons p es ih =>
   intro kvs k e
   obtain ⟨j, x⟩ := p
   refine Xeeaa e fun v r e1 e2 e3 => ?_
   subst e1
   rw [List.any_cons, List.any_cons, ih e3]
theorem RepI.mapPut {es : List (Int × D)} : ∀ {kvs : List (Int × Value)} {k : Int} {d : D} {v : Value}, RepI C P es kvs → Rep C P d v → RepI C P (es.map (fun e => if e.1 = k then (e.1, d) else e)) (kvs.map (fun e => if e.1 = k then (e.1, v) else e)) := by
 induction es with
 | nil => intro kvs k d v e _; rw [show kvs = [] from e]; rfl
 | cons p es ih =>
   intro kvs k d v e h
   obtain ⟨j, x⟩ := p
   refine Xeeaa e fun u r e1 e2 e3 => ?_
   subst e1
   rw [List.map_cons, List.map_cons]
   by_cases hj : j = k
   · rw [if_pos hj, if_pos hj]; exact Ieeaa v _ rfl h (ih e3 h)
   · rw [if_neg hj, if_neg hj]; exact Ieeaa u _ rfl e2 (ih e3 h)
theorem RepI.snoc {es : List (Int × D)} : ∀ {kvs : List (Int × Value)} {k : Int} {d : D} {v : Value}, RepI C P es kvs → Rep C P d v → RepI C P (es ++ [(k, d)]) (kvs ++ [(k, v)]) := by
 induction es with
 | nil => intro kvs k d v e h; rw [show kvs = [] from e]; exact Ieeaa _ ([]) rfl h rfl
 | cons p es ih => intro kvs k d v e h; obtain ⟨j, x⟩ := p; refine Xeeaa e fun u r e1 e2 e3 => ?_; subst e1; exact Ieeaa u (r ++ _) rfl e2 (ih e3 h)
theorem RepI.put {es : List (Int × D)} {kvs : List (Int × Value)} {k : Int} {d : D} {v : Value} (h : RepI C P es kvs) (r : Rep C P d v) : RepI C P (putI es k d) (stored kvs k v) := by
 unfold putI stored
 rw [h.any]
 split
 · exact h.mapPut r
 · exact h.snoc r
end
structure Vars (env : Env) (W : Mp) (F : Addr → Prop) (vm : Str → Option Value) : Prop where
 loc : ∃ o es ep, W env.locals = some o ∧ o.data = .dict es ep ∧ StrKeys es ∧ ∀ x, env.kindOf x = some .local → nsFind es x = vm x
 locF : F env.locals
 cel : ∀ x c, env.cells.lookup x = some c → ∃ o, W c = some o ∧ o.data = .cell (vm x)
 celF : env.func.isSome = true → ∀ x c, env.cells.lookup x = some c → F c
 celK : ∀ x c, env.cells.lookup x = some c → env.kindOf x ≠ some .local
 celE : ∀ x, env.kindOf x = some .cell ∨ env.kindOf x = some .free → ∃ c, env.cells.lookup x = some c
 celD : ∀ x y c, env.cells.lookup x = some c → env.cells.lookup y = some c → x = y
theorem Vars.locals_ne_cell {env : Env} {W : Mp} {F : Addr → Prop} {vm : Str → Option Value} (V : Vars env W F vm) {x : Str} {c : Addr} (h : env.cells.lookup x = some c) : c ≠ env.locals := by
 rintro rfl
 refine Xeeeaa V.loc fun o es ep h1 h2 _ => ?_
 refine Xea (V.cel _ _ h) fun o' h3 h4 => ?_
 rw [h1] at h3; cases h3
 rw [h2] at h4; cases h4
inductive Slot where
 | non
 | val (d : D)
 | ownL (io : Bool) (xs : List D)
 | ownI (es : List (Int × D))
 | ownT (es : LT)
 | ownH (io : Bool) (xs : List D)
 deriving Inhabited
inductive Fl where
 | next | brk | cont
 | ret (d : D)
 deriving Inhabited
noncomputable abbrev FnD := List Slot → Option (D × List Slot)
noncomputable abbrev FnB := List Slot → Option (Bool × List Slot)
noncomputable abbrev FnF := List Slot → Option (Fl × List Slot)
noncomputable abbrev FnL := List Slot → Option (List D × List Slot)
noncomputable abbrev kq (d : D) : FnD := fun σ => some (d, σ)
noncomputable abbrev LS := List Slot
noncomputable def Slot.own : Slot → Bool
 | .non | .val _ => false
 | _ => true
noncomputable def Slot.io : Slot → Bool
 | .ownL io _ => io
 | .ownH io _ => io
 | _ => false
noncomputable def Slot.d : Slot → D
 | .non => .none
 | .val d => d
 | .ownL _ xs => .list xs
 | .ownI es => .dI es
 | .ownT es => .dT es
 | .ownH _ xs => .hdr xs
section
variable (C : Cx)
noncomputable def ObjR (P : Mp) : Slot → Obj → Prop
 | .ownL _ xs, o => ∃ vs, IsLst o vs ∧ Reps C P xs vs
 | .ownI es, o => ∃ kvs, o.IsDictOf C.ki kvs ∧ RepI C P es kvs
 | .ownT es, o => IsDctT C P o es
 | .ownH _ xs, o => ∃ vs, IsLst o vs ∧ Reps C P xs vs
 | _, _ => False
noncomputable def ValR (P : Mp) (b : Addr) : Slot → Value → Prop
 | .ownH _ _, v => ∃ a, v = .ref a ∧ HdrAt C.hc P a b
 | .ownI _, v => v = .ref b ∧ sysModules < b
 | .ownT _, v => v = .ref b ∧ sysModules < b
 | _, v => v = .ref b
noncomputable def SlotR (P W : Mp) (F : Addr → Prop) (sl : Slot) (ov : Option Value) (b : Addr) : Prop :=
 match sl with
 | .non => True
 | .val d => ∃ v, ov = some v ∧ Rep C P d v
 | sl => ∃ v o, ov = some v ∧ ValR C P b sl v ∧ W b = some o ∧ ObjR C P sl o ∧ F b ∧ (sl.io = true → b = C.b0)
structure RelEnv (vars : List Str) (env : Env) (σ : LS) (P W : Mp) (F : Addr → Prop) (vm : Str → Option Value) (own : Nat → Addr) : Prop where
 vs : Vars env W F vm
 nd : vars.Nodup
 len : σ.length = vars.length
 sl : ∀ i x, vars[i]? = some x → SlotR C P W F (σ.getD i .non) (vm x) (own i)
 apL : ∀ i, (σ.getD i .non).own = true → own i ≠ env.locals ∧ ∀ x c, env.cells.lookup x = some c → own i ≠ c
 apO : ∀ i j, i ≠ j → (σ.getD i .non).own = true → (σ.getD j .non).own = true → own i ≠ own j
end
structure Step (P W : Mp) (F : Addr → Prop) (P' W' : Mp) (F' : Addr → Prop) : Prop where
 p : P.Le P'
 w : ∀ a o, W a = some o → ¬ F a → W' a = some o
 f : ∀ a, F' a → F a ∨ W a = none
theorem Step.refl (P W : Mp) (F : Addr → Prop) : Step P W F P W F := ⟨.refl _, fun _ _ e _ => e, fun _ h => .inl h⟩
theorem Step.trans {P W F P' W' F' P'' W'' F''} (h : Step P W F P' W' F') (g : Step P' W' F' P'' W'' F'') : Step P W F P'' W'' F'' where
 p := h.p.trans g.p
 w := fun a o e n => g.w a o (h.w a o e n) fun q => (h.f a q).elim n fun r => by rw [e] at r; cases r
 f := fun a q => by
   rcases g.f a q with r | r
   · exact h.f a r
   · by_cases hF : F a
     · exact .inl hF
     · right
       cases e : W a with
       | none => rfl
       | some o => have := h.w a o e hF; rw [r] at this; cases this
theorem Step.le {P W F P'} (h : P.Le P') : Step P W F P' W F := ⟨h, fun _ _ e _ => e, fun _ h => .inl h⟩
structure EnvG (sc : Scope) (env : Env) : Prop where
 e : env.scope = sc
 k : sc.kind = ScopeKind.function
 g : env.globals = mainGlobals
 b : env.builtins = builtinsNs
theorem EnvG.kind {sc : Scope} {env : Env} (h : EnvG sc env) : env.scope.kind = ScopeKind.function := by rw [h.e]; exact h.k
theorem EnvG.kindOf {sc : Scope} {env : Env} (h : EnvG sc env) (x : Str) : env.kindOf x = sc.names.lookup x := by unfold Env.kindOf; rw [h.e]
noncomputable def Room (k : Nat) (A : Around) : Prop := A.handled = none ∧ A.depth + k < recursionLimit ∧ A.units + 10 * k + 20 < cLine
theorem Room.le {k k' : Nat} {A : Around} (h : Room k A) (hk : k' ≤ k) : Room k' A := ⟨h.1, Nat.lt_of_le_of_lt (Nat.add_le_add_left hk _) h.2.1, Nat.lt_of_le_of_lt (Nat.add_le_add_right (Nat.add_le_add_left (Nat.mul_le_mul_left 10 hk) _) 20) h.2.2⟩
noncomputable abbrev NoE : Value → Shared → Prop := fun _ _ => False
section
variable (C : Cx)
noncomputable def PostE (vars : List Str) (env : Env) (P W : Mp) (F : Addr → Prop) (vm : Str → Option Value) (σ' : LS) (d : D) (Q : Value → Shared → Prop) : Prop := ∀ v P' W' F' own' s', St C P' W' s' → Step P W F P' W' F' → RelEnv C vars env σ' P' W' F' vm own' → Rep C P' d v → Q v s'
noncomputable def PostT (vars : List Str) (env : Env) (P W : Mp) (F : Addr → Prop) (vm : Str → Option Value) (σ' : LS) (Q : Shared → Prop) : Prop := ∀ P' W' F' own' s', St C P' W' s' → Step P W F P' W' F' → RelEnv C vars env σ' P' W' F' vm own' → Q s'
structure EOK (k : Nat) (sc : Scope) (vars : List Str) (e : Expr) (f : FnD) : Prop where
 go : ∀ (env : Env) (A : Around) (P W : Mp) (F : Addr → Prop) (vm : Str → Option Value) (own : Nat → Addr) (s : Shared) (σ σ' : LS) (d : D) (Q : Value → Shared → Prop),
   EnvG sc env → Room k A → St C P W s → RelEnv C vars env σ P W F vm own → f σ = some (d, σ') →
   PostE C vars env P W F vm σ' d Q →
   wpAny C.M A (eval e env) Q NoE s
noncomputable def FlR (P : Mp) : Fl → Flow → Prop
 | .next, fl => fl = .next
 | .brk, fl => fl = .brk
 | .cont, fl => fl = .cont
 | .ret d, fl => ∃ v, fl = .ret v ∧ Rep C P d v
noncomputable def PostS (vars : List Str) (env : Env) (P W : Mp) (F : Addr → Prop) (σ' : LS) (d : Fl) (Q : Flow → Shared → Prop) : Prop := ∀ fl P' W' F' vm' own' s', St C P' W' s' → Step P W F P' W' F' → RelEnv C vars env σ' P' W' F' vm' own' → FlR C P' d fl → Q fl s'
structure BOK (k : Nat) (sc : Scope) (vars : List Str) (b : List Stmt) (f : FnF) : Prop where
 go : ∀ (env : Env) (A : Around) (P W : Mp) (F : Addr → Prop) (vm : Str → Option Value) (own : Nat → Addr) (s : Shared) (σ σ' : LS) (d : Fl) (Q : Flow → Shared → Prop),
   EnvG sc env → env.func.isSome = true → Room k A → St C P W s → RelEnv C vars env σ P W F vm own → f σ = some (d, σ') →
   PostS C vars env P W F σ' d Q →
   wpAny C.M A (execs b env) Q NoE s
structure SOK (k : Nat) (sc : Scope) (vars : List Str) (st : Stmt) (f : FnF) : Prop where
 go : ∀ (env : Env) (A : Around) (P W : Mp) (F : Addr → Prop) (vm : Str → Option Value) (own : Nat → Addr) (s : Shared) (σ σ' : LS) (d : Fl) (Q : Flow → Shared → Prop),
   EnvG sc env → env.func.isSome = true → Room k A → St C P W s → RelEnv C vars env σ P W F vm own → f σ = some (d, σ') →
   PostS C vars env P W F σ' d Q →
   wpAny C.M A (exec st env) Q NoE s
structure TOK (k : Nat) (sc : Scope) (vars : List Str) (e : Expr) (f : FnB) : Prop where
 go : ∀ (env : Env) (A : Around) (P W : Mp) (F : Addr → Prop) (vm : Str → Option Value) (own : Nat → Addr) (s : Shared) (σ σ' : LS) (d : Bool) (Q : Bool → Shared → Prop),
   EnvG sc env → Room k A → St C P W s → RelEnv C vars env σ P W F vm own → f σ = some (d, σ') →
   PostT C vars env P W F vm σ' (Q d) →
   wpAny C.M A (isTrue e env (eval e env)) Q NoE s
end
section
variable {C : Cx} {vars : List Str} {env : Env} {σ : LS} {P W : Mp} {F : Addr → Prop} {vm : Str → Option Value} {own : Nat → Addr} {s : Shared}
theorem RelEnv.monoP {P' : Mp} (R : RelEnv C vars env σ P W F vm own) (h : P.Le P') : RelEnv C vars env σ P' W F vm own where
 vs := R.vs
 nd := R.nd
 len := R.len
 sl := fun i x e => by
   have := R.sl i x e
   cases hs : σ.getD i .non with
   | non => trivial
   | val d => rw [hs] at this; refine Xea this fun v h1 h2 => ?_; exact Iea v h1 (Rep.mono h d h2)
   | ownL io xs => rw [hs] at this; refine Xeeaaaa this fun v o h1 h2 h3 w1 h6 => ?_; refine Xea w1 fun vs h4 h5 => ?_; exact Ieeaaaa v o h1 h2 h3 ⟨vs, h4, Reps.mono h _ h5⟩ h6
   | ownI xs => rw [hs] at this; refine Xeeaaaa this fun v o h1 h2 h3 w2 h6 => ?_; refine Xea w2 fun vs h4 h5 => ?_; exact Ieeaaaa v o h1 h2 h3 ⟨vs, h4, RepI.mono h _ h5⟩ h6
   | ownT xs => rw [hs] at this; refine Xeeaaaa this fun v o h1 h2 h3 h4 h6 => ?_; exact Ieeaaaa v o h1 h2 h3 (h4.mono h) h6
   | ownH io xs => rw [hs] at this; refine Xeeaaaa this fun v o h1 w3 h3 w4 h6 => ?_; refine Xea w3 fun a h2 h2' => ?_; refine Xea w4 fun vs h4 h5 => ?_; exact Ieeaaaa v o h1 ⟨a, h2, h2'.mono h⟩ h3 ⟨vs, h4, Reps.mono h _ h5⟩ h6
 apL := R.apL
 apO := R.apO
theorem RelEnv.frameW {W' : Mp} {F' : Addr → Prop} (R : RelEnv C vars env σ P W F vm own) (hW : ∀ a o, F a → W a = some o → W' a = some o) (hC : ∀ x c o, env.cells.lookup x = some c → W c = some o → W' c = some o) (hF : ∀ a, F a → F' a) : RelEnv C vars env σ P W' F' vm own where
 vs := by
   refine Xeeeaaa R.vs.loc fun o es ep h1 h2 h3 h4 => ?_
   refine ⟨⟨o, es, ep, hW _ _ R.vs.locF h1, h2, h3, h4⟩, hF _ R.vs.locF, fun x c e => ?_, fun hf x c e => hF _ (R.vs.celF hf x c e), R.vs.celK, R.vs.celE, R.vs.celD⟩
   refine Xea (R.vs.cel x c e) fun o a b => ?_
   exact Iea o (hC x c o e a) b
 nd := R.nd
 len := R.len
 sl := fun i x e => by
   have := R.sl i x e
   cases hs : σ.getD i .non with
   | non => trivial
   | val d => rw [hs] at this; exact this
   | _ => rw [hs] at this; refine Xeeaaaa this fun v o h1 h2 h3 h4 h6 => ?_; exact Ieeaaaaa v o h1 h2 (hW _ _ h6.1 h3) h4 (hF _ h6.1) h6.2
 apL := R.apL
 apO := R.apO
theorem RelEnv.cut (R : RelEnv C vars env σ P W F vm own) : RelEnv C vars env σ P W (fun a => F a ∧ (W a).isSome = true) vm own where
 vs := by
   refine Xeeeaaa R.vs.loc fun o es ep h1 h2 h3 h4 => ?_
   refine ⟨⟨o, es, ep, h1, h2, h3, h4⟩, ⟨R.vs.locF, by rw [h1]; rfl⟩, R.vs.cel, fun hf x c e => ⟨R.vs.celF hf x c e, ?_⟩, R.vs.celK, R.vs.celE, R.vs.celD⟩
   refine Xea (R.vs.cel x c e) fun o a _ => ?_
   rw [a]; rfl
 nd := R.nd
 len := R.len
 sl := fun i x e => by
   haveI := R.sl i x e
   cases hs : σ.getD i .non with
   | non => trivial
   | val d => rw [hs] at this; exact this
   | _ => rw [hs] at this; refine Xeeaaaa this fun v o h1 h2 h3 h4 h6 => ?_; exact Ieeaaaaa v o h1 h2 h3 h4 ⟨h6.1, by rw [h3]; rfl⟩ h6.2
 apL := R.apL
 apO := R.apO
theorem SlotR.own_of {sl : Slot} {ov : Option Value} {b : Addr} (h : SlotR C P W F sl ov b) (ho : sl.own = true) : ∃ v o, ov = some v ∧ ValR C P b sl v ∧ W b = some o ∧ ObjR C P sl o ∧ F b ∧ (sl.io = true → b = C.b0) := by
 cases sl with
 | non => cases ho
 | val d => cases ho
 | _ => exact h
theorem getD_set_self {l : LS} {i : Nat} {x : Slot} (h : i < l.length) : (l.set i x).getD i .non = x := by
 simp [List.getD, h]
theorem getD_set_ne {l : LS} {i j : Nat} {x : Slot} (h : j ≠ i) : (l.set i x).getD j .non = l.getD j .non := by
 simp [List.getD, List.getElem?_set_ne (Ne.symm h)]
theorem idx_lt {l : List Str} {i : Nat} {x : Str} (h : l[i]? = some x) : i < l.length := (List.getElem?_eq_some_iff.mp h).1
theorem idx_inj {l : List Str} {i j : Nat} {x : Str} (nd : l.Nodup) (h : l[i]? = some x) (g : l[j]? = some x) : i = j :=
 (List.getElem?_inj (idx_lt h) nd).mp (h.trans g.symm)
end
section
variable {C : Cx} {vars : List Str} {env : Env} {sc : Scope} {σ : LS} {P P' W W' : Mp} {F : Addr → Prop} {vm : Str → Option Value} {own : Nat → Addr} {s : Shared} {A : Around} {k : Nat} {L : Addr}
section
variable {C : Cx} {vars : List Str} {env : Env} {sc : Scope} {σ : LS} {P W : Mp} {F : Addr → Prop} {vm : Str → Option Value} {own : Nat → Addr} {s : Shared} {A : Around} {k : Nat}
theorem load_name {E : Value → Shared → Prop} {x : Str} {v : Value} {Q : Value → Shared → Prop} (G : EnvG sc env) (V : Vars env W F vm) (S : St C P W s) (hx : sc.names.lookup x = some .local ∨ sc.names.lookup x = some .cell ∨ sc.names.lookup x = some .free)
   (hv : vm x = some v) (h : Q v s) (hn : (x == ("__classdict__" : Str)) = false) : wpAny C.M A (loadName env x) Q E s := by
 rcases hx with hx | hx | hx <;> rw [← G.kindOf] at hx
 · refine Xeeeaaa V.loc fun o es ep h1 h2 h3 h4 => ?_
   exact wpAny_loadName_local (m := fun y => nsFind es y) G.kind hx ⟨o, es, ep, (S.w _ _ h1).1, h2, h3, fun _ => rfl⟩ ((h4 x hx).trans hv) h
 · refine Xe (V.celE x (.inl hx)) fun c hc => ?_
   refine Xea (V.cel x c hc) fun o h1 h2 => ?_
   exact wpAny_loadName_cell G.kind hx hc ⟨o, (S.w _ _ h1).1, by rw [h2, hv]⟩ h
 · refine Xe (V.celE x (.inr hx)) fun c hc => ?_
   refine Xea (V.cel x c hc) fun o h1 h2 => ?_
   exact wpAny_loadName_free G.kind hx hc ⟨o, (S.w _ _ h1).1, by rw [h2, hv]⟩ h hn
theorem RelEnv.freeze (R : RelEnv C vars env σ P W F vm own) (S : St C P W s) {i : Nat} {x : Str} (hi : vars[i]? = some x) (ho : (σ.getD i .non).own = true) {v : Value} {o : Obj}
   (h1 : vm x = some v) (h2 : ValR C P (own i) (σ.getD i .non) v) (h3 : W (own i) = some o) (h4 : ObjR C P (σ.getD i .non) o) :
   RelEnv C vars env (σ.set i (.val (σ.getD i .non).d)) (P.upd (own i) o) (W.del (own i)) F vm own ∧ Rep C (P.upd (own i) o) (σ.getD i .non).d v := by
 have hle : P.Le (P.upd (own i) o) := Mp.Le.upd (S.w _ _ h3).2
 have rep : Rep C (P.upd (own i) o) (σ.getD i .non).d v := by
   cases hs : σ.getD i .non with
   | non => rw [hs] at ho; cases ho
   | val d => rw [hs] at ho; cases ho
   | ownL io xs => rw [hs] at h2 h4; refine Xea h4 fun vs h5 h6 => ?_; exact Ieeeaaa (own i) o vs h2 (Mp.upd_self ..) h5 (Reps.mono hle _ h6)
   | ownI xs => rw [hs] at h2 h4; refine Xea h4 fun vs h5 h6 => ?_; exact Ieeeaaaa (own i) o vs h2.1 (Mp.upd_self ..) h5 (RepI.mono hle _ h6) h2.2
   | ownT xs => rw [hs] at h2 h4; exact Ieeaaa (own i) o h2.1 (Mp.upd_self ..) (h4.mono hle) h2.2
   | ownH io xs => rw [hs] at h2 h4; refine Xea h4 fun vs h5 h6 => ?_; refine Xea h2 fun a h7 h8 => ?_; exact Ieeeeaaaa a (own i) o vs h7 (h8.mono hle) (Mp.upd_self ..) h5 (Reps.mono hle _ h6)
 refine ⟨?_, rep⟩
 have R' := R.monoP hle
 have il : i < σ.length := by rw [R.len]; exact idx_lt hi
 refine Xa (R.apL i ho) fun aL aC => ?_
 have isOwn : ∀ j, ((σ.set i (.val (σ.getD i .non).d)).getD j .non).own = true → j ≠ i ∧ (σ.getD j .non).own = true := fun j hj => by
   by_cases hji : j = i
   · subst hji; rw [getD_set_self il] at hj; cases hj
   · rw [getD_set_ne hji] at hj; exact ⟨hji, hj⟩
 refine ⟨?_, R.nd, by rw [List.length_set]; exact R.len, fun j y hj => ?_, fun j hj => R.apL j (isOwn j hj).2, fun j j' hne hj hj' => R.apO j j' hne (isOwn j hj).2 (isOwn j' hj').2⟩
 · refine Xeeea R.vs.loc fun oL es ep g1 g2 => ?_
   refine ⟨⟨oL, es, ep, by rw [Mp.del_ne _ (Ne.symm aL)]; exact g1, g2⟩, R.vs.locF, fun y c hc => ?_, R.vs.celF, R.vs.celK, R.vs.celE, R.vs.celD⟩
   refine Xea (R.vs.cel y c hc) fun oc g3 g4 => ?_
   exact Iea oc (by rw [Mp.del_ne _ (Ne.symm (aC y c hc))]; exact g3) g4
 · by_cases hji : j = i
   · subst hji
     rw [getD_set_self il]
     obtain rfl : x = y := Option.some.inj (hi.symm.trans hj)
     exact Iea v h1 rep
   · rw [getD_set_ne hji]
     have := R'.sl j y hj
     cases hs : σ.getD j .non with
     | non => trivial
     | val d => rw [hs] at this; exact this
     | _ =>
       have hne : own j ≠ own i := R.apO j i hji (by rw [hs]; rfl) ho
       rw [hs] at this; refine Xeeaaaa this fun v o k1 k2 k3 k4 k6 => ?_; exact Ieeaaaa v o k1 k2 (by rw [Mp.del_ne _ hne]; exact k3) k4 k6
theorem step_freeze {a : Addr} {o : Obj} (S : St C P W s) (h3 : W a = some o) (hF : F a) : Step P W F (P.upd a o) (W.del a) F :=
 ⟨Mp.Le.upd (S.w _ _ h3).2, fun b ob e hn => by rw [Mp.del_ne _ (by rintro rfl; exact hn hF)]; exact e, fun _ h => .inl h⟩
noncomputable def fv_ (i : Nat) (σ : LS) : Option (D × LS) := match σ.getD i .non with
 | .non => none
 | .val d => some (d, σ)
 | sl => some (sl.d, σ.set i (.val sl.d))
theorem EOK_var {x : Str} {pos : Pos} {i : Nat} (hi : vars[i]? = some x) (hx : sc.names.lookup x = some .local ∨ sc.names.lookup x = some .cell ∨ sc.names.lookup x = some .free)
   (hn : (x == ("__classdict__" : Str)) = false) (hd : (x == ("__debug__" : Str)) = false) : EOK C k sc vars (.Name x pos) (fv_ i) := by
 constructor
 intro env A P W F vm own s σ σ' d Q G _ S R hf hQ
 have hs := R.sl i x hi
 unfold fv_ at hf
 cases hσ : σ.getD i .non with
 | non => rw [hσ] at hf; cases hf
 | val d' =>
   rw [hσ] at hf hs; cases hf
   refine Xea hs fun v h1 h2 => ?_
   exact wpAny_Name (load_name G R.vs S hx h1 (hQ v P W F own s S (.refl ..) R h2) hn) hd
 | _ =>
   have ho : (σ.getD i .non).own = true := by rw [hσ]; rfl
   refine Xeeaaaa (hs.own_of ho) fun v o h1 h2 h3 h4 h6 => ?_
   refine Xa (R.freeze S hi ho h1 h2 h3 h4) fun R' rep => ?_
   rw [hσ] at hf; cases hf
   rw [hσ] at R' rep
   exact wpAny_Name (load_name G R.vs S hx h1 (hQ v _ _ F own s (S.freeze h3) (step_freeze S h3 h6.1) R' rep) hn) hd
theorem eIt {i : Int} {kk : Nat} {pos : Pos} : EOK C k sc vars (.Constant (.int i) kk pos) (kq (.int i)) := by
 constructor
 intro env A P W F vm own s σ σ' d Q G _ S R hf hQ
 nomatch hf, hQ
 exact wpAny_Constant_int (hQ _ P W F own _ (S.toks _) (.refl ..) R ⟨_, rfl⟩)
theorem EOK_str {x : Str} {kk : Nat} {pos : Pos} : EOK C k sc vars (.Constant (.str x) kk pos) (kq (.str x)) := by
 constructor
 intro env A P W F vm own s σ σ' d Q G _ S R hf hQ
 nomatch hf, hQ
 exact Constant_str (hQ _ P W F own _ (S.toks _) (.refl ..) R ⟨_, rfl⟩)
theorem EOK_none {kk : Nat} {pos : Pos} : EOK C k sc vars (.Constant .none kk pos) (kq .none) := by
 constructor
 intro env A P W F vm own s σ σ' d Q G _ S R hf hQ
 nomatch hf, hQ
 exact wpAny_Constant_none (hQ _ P W F own _ S (.refl ..) R rfl)
theorem EOK_bool {b : Bool} {kk : Nat} {pos : Pos} : EOK C k sc vars (.Constant (.bool b) kk pos) (kq (.bool b)) := by
 constructor
 intro env A P W F vm own s σ σ' d Q G _ S R hf hQ
 nomatch hf, hQ
 exact wpAny_Constant_bool (hQ _ P W F own _ S (.refl ..) R rfl)
theorem EOK_glob {x : Str} {pos : Pos} {v : Value} {d : D} (ok : C.OK) (e : nsIn C.K mainGlobals x = some (some v)) (hr : ∀ P : Mp, (∀ a o, C.H.get? a = some o → P a = some o) → Rep C P d v)
   (hx : sc.names.lookup x = some .globalImplicit) (hd : (x == ("__debug__" : Str)) = false) : EOK C k sc vars (.Name x pos) (kq d) := by
 constructor
 intro env A P W F vm own s σ σ' d' Q G _ S R hf hQ
 nomatch hf, hQ
 refine Name_function_global G.kind ((G.kindOf x).trans hx) (loadGlobal_global (by rw [G.g]; exact ok.T.g.keeps S.keepH) (mg_of ok.X ok.T.g e) ?_) hd
 exact hQ v P W F own s S (.refl ..) R (hr P S.base)
end
noncomputable def NsM (W : Mp) (L : Addr) (m : Str → Option Value) : Prop := ∃ o es ep, W L = some o ∧ o.data = .dict es ep ∧ StrKeys es ∧ ∀ x, nsFind es x = m x
structure Slk (L : Addr) (W W' : Mp) : Prop where
 off : ∀ a, a ≠ L → W' a = W a
 ns : ∀ m, NsM W L m → NsM W' L m
theorem Slk.refl (L : Addr) (W : Mp) : Slk L W W := ⟨fun _ _ => rfl, fun _ h => h⟩
theorem Slk.trans {L : Addr} {W W' W'' : Mp} (h : Slk L W W') (g : Slk L W' W'') : Slk L W W'' := ⟨fun a n => (g.off a n).trans (h.off a n), fun m x => g.ns m (h.ns m x)⟩
section
theorem Vars.nsM (V : Vars env W F vm) : ∃ m, NsM W env.locals m := let ⟨o, es, ep, h1, h2, h3, _⟩ := V.loc; ⟨_, o, es, ep, h1, h2, h3, fun _ => rfl⟩
theorem Vars.slk (V : Vars env W F vm) (h : Slk env.locals W W') : Vars env W' F vm := by
 refine Xeeeaaa V.loc fun o es ep h1 h2 h3 h4 => ?_
 refine Xeeeaaa (h.ns _ ⟨o, es, ep, h1, h2, h3, fun _ => rfl⟩) fun o' es' ep' g1 g2 g3 g4 => ?_
 refine ⟨⟨o', es', ep', g1, g2, g3, fun x hx => (g4 x).trans (h4 x hx)⟩, V.locF, fun x c hc => ?_, V.celF, V.celK, V.celE, V.celD⟩
 refine Xea (V.cel x c hc) fun oc k1 k2 => ?_
 exact Iea oc ((h.off c (V.locals_ne_cell hc)).trans k1) k2
theorem RelEnv.slk (R : RelEnv C vars env σ P W F vm own) (h : Slk env.locals W W') : RelEnv C vars env σ P W' F vm own where
 vs := R.vs.slk h
 nd := R.nd
 len := R.len
 sl := fun i x e => by
   have := R.sl i x e
   cases hs : σ.getD i .non with
   | non => trivial
   | val d => rw [hs] at this; exact this
   | _ =>
     haveI hne := (R.apL i (by rw [hs]; rfl)).1
     rw [hs] at this; refine Xeeaaaa this fun v o h1 h2 h3 h4 h6 => ?_; exact Ieeaaaa v o h1 h2 ((h.off _ hne).trans h3) h4 h6
 apL := R.apL
 apO := R.apO
theorem Slk.step (h : Slk L W W') (hF : F L) (hP : P.Le P') : Step P W F P' W' F := ⟨hP, fun a o e n => (h.off a (by rintro rfl; exact n hF)).trans e, fun _ q => .inl q⟩
noncomputable def allBut (h : Heap) (L : Addr) : List (Addr × Obj) := (List.range h.objs.size).filterMap fun a => if a = L then none else (h.get? a).map fun o => (a, o)
theorem mem_allBut {h : Heap} {L a : Addr} {o : Obj} : (a, o) ∈ allBut h L ↔ a ≠ L ∧ h.get? a = some o := by
 unfold allBut
 rw [List.mem_filterMap]
 constructor
 · rintro ⟨b, _, e⟩
   split at e
   · cases e
   · cases q : h.get? b with
     | none => rw [q] at e; cases e
     | some o' => rw [q] at e; cases e; exact ⟨by assumption, q⟩
 · rintro ⟨hn, e⟩
   exact Iea a (List.mem_range.mpr (Heap.lt_size e)) (by rw [if_neg hn, e]; rfl)
noncomputable def noHeap : Heap := {}
theorem fr_of (S : St C P W s) {m : Str → Option Value} (n : NsM W L m) : Fr noHeap L s.heap m ∧ News noHeap L s.heap (allBut s.heap L) := by
 refine Xeeeaaa n fun o es ep h1 h2 h3 h4 => ?_
 exact ⟨⟨⟨o, es, ep, (S.w _ _ h1).1, h2, h3, h4⟩, (fun b o e => by cases e), Nat.zero_le _⟩, fun p hp => let h := mem_allBut.mp hp; ⟨h.2, h.1, rfl⟩⟩
theorem St.back {m : Str → Option Value} {h' : Heap} {tk : Nat} {more : List (Addr × Obj)} (S : St C P W s) (n : NsM W L m) (F' : Fr noHeap L h' m) (N' : News noHeap L h' (more ++ allBut s.heap L)) :
   ∃ W', Slk L W W' ∧ St C P W' { s with heap := h', toks := tk } ∧ ∀ a o, a ≠ L → s.heap.get? a = some o → h'.get? a = some o := by
 refine Xeeeaaa F'.ns fun oL es ep h1 h2 h3 h4 => ?_
 refine Xeeeaaa (id n) fun o0 es0 ep0 g1 g2 g3 g4 => ?_
 have keep : ∀ a o, a ≠ L → s.heap.get? a = some o → h'.get? a = some o := fun a o ha e => (N' (a, o) (List.mem_append_right _ (mem_allBut.mpr ⟨ha, e⟩))).1
 haveI pL : P L = none := (S.w _ _ g1).2
 refine Ieaa (W.upd L oL) ⟨fun a ha => Mp.upd_ne _ _ ha, fun m' hm => ?_⟩ ⟨S.gens, S.drawn, S.os, S.base, fun a o e => keep a o (by rintro rfl; rw [pL] at e; cases e) (S.p a o e), fun a o e => ?_⟩ keep
 · refine Xeeeaaa hm fun o1 es1 ep1 k1 k2 k3 k4 => ?_
   rw [g1] at k1; cases k1
   rw [g2] at k2; cases k2
   exact Ieeeaaa oL es ep (Mp.upd_self ..) h2 h3 (fun x => (h4 x).trans ((g4 x).symm.trans (k4 x)))
 · by_cases ha : a = L
   · subst ha; rw [Mp.upd_self] at e; cases e; exact ⟨h1, pL⟩
   · rw [Mp.upd_ne _ _ ha] at e; exact ⟨keep a o ha (S.w a o e).1, (S.w a o e).2⟩
theorem St.back1 {m : Str → Option Value} {h' : Heap} {tk : Nat} {a : Addr} {o : Obj} (S : St C P W s) (n : NsM W L m) (F' : Fr noHeap L h' m) (N' : News noHeap L h' ((a, o) :: allBut s.heap L)) (ha : s.heap.get? a = none) :
   ∃ W', Slk L W W' ∧ P.Le (P.upd a o) ∧ St C (P.upd a o) W' { s with heap := h', toks := tk } := by
 refine Xeaa (S.back (tk := tk) (more := [(a, o)]) n F' N') fun W' h1 h2 _ => ?_
 haveI e := N' (a, o) (.head _)
 have pa : P a = none := by
   cases q : P a with
   | none => rfl
   | some o' => have := S.p a o' q; rw [ha] at this; cases this
 refine Ieaa W' h1 (Mp.Le.upd pa) (⟨h2.gens, h2.drawn, h2.os, fun b ob q => Mp.Le.upd pa _ _ (h2.base b ob q), fun b ob q => ?_, fun b ob q => ⟨(h2.w b ob q).1, ?_⟩⟩)
 · by_cases hb : b = a
   · subst hb; rw [Mp.upd_self] at q; cases q; exact e.1
   · rw [Mp.upd_ne _ _ hb] at q; exact h2.p b ob q
 · haveI hne : b ≠ a := by
     rintro rfl
     by_cases hL : b = L
     · exact e.2.1 hL
     · haveI q' := q
       rw [h1.off b hL] at q'
       rw [(S.w b ob q').1] at ha; cases ha
   rw [Mp.upd_ne _ _ hne]; exact (h2.w b ob q).2
theorem size_none (h : Heap) : h.get? h.objs.size = none := by
 cases q : h.get? h.objs.size with
 | none => rfl
 | some o => exact absurd (Heap.lt_size q) (Nat.lt_irrefl _)
noncomputable abbrev Res (C : Cx) (P W : Mp) (L : Addr) (Q : Value → Shared → Prop) (d : D) : Prop :=
 ∀ v P' W' s', P.Le P' → St C P' W' s' → Slk L W W' → Rep C P' d v → Q v s'
theorem Res.same {Q : Value → Shared → Prop} {d : D} {v : Value} {s' : Shared} (h : Res C P W L Q d) (S : St C P W s') (r : Rep C P d v) : Q v s' := h v P W s' (.refl _) S (.refl ..) r
end
noncomputable def bigN : Nat := 100000
noncomputable abbrev okI (a : Int) : Prop := -4611686018427387904 < a ∧ a < 4611686018427387904
noncomputable def intD : D → Option Int
 | .int n => some n
 | _ => none
theorem intD_eq {d : D} {n : Int} (h : intD d = some n) : d = .int n := by
 cases d with
 | int x => cases h; rfl
 | _ => cases h
noncomputable def lstD : D → Option (List D)
 | .list n => some n
 | _ => none
theorem lstD_eq {d : D} {n : List D} (h : lstD d = some n) : d = .list n := by
 cases d with
 | list x => cases h; rfl
 | _ => cases h
noncomputable def strD : D → Option Str
 | .str n => some n
 | _ => none
theorem strD_eq {d : D} {n : Str} (h : strD d = some n) : d = .str n := by
 cases d with
 | str x => cases h; rfl
 | _ => cases h
noncomputable def tupD : D → Option (List D)
 | .tup n => some n
 | _ => none
theorem tupD_eq {d : D} {n : List D} (h : tupD d = some n) : d = .tup n := by
 cases d with
 | tup x => cases h; rfl
 | _ => cases h
noncomputable def iiD (f : Int → Int → Option D) (a b : D) : Option D := (intD a).bind fun x => (intD b).bind fun y => f x y
inductive IiI (f : Int → Int → Option D) (a b d : D) : Prop
 | mk (x y : Int) (h1 : a = .int x) (h2 : b = .int y) (h3 : f x y = some d) : IiI f a b d
theorem iiD_inv {f : Int → Int → Option D} {a b d : D} (h : iiD f a b = some d) : IiI f a b d := by
 refine bs1 h fun x e1 h => ?_
 refine bs1 h fun y e2 h => ?_
 exact ⟨x, y, intD_eq e1, intD_eq e2, h⟩
noncomputable def addD : D → D → Option D
 | .int a, .int b => some (.int (a + b))
 | .int a, .bool b => some (.int (a + if b = true then 1 else 0))
 | .str x, b => (strD b).bind fun y => if x.length + y.length ≤ bigN then some (.str (x ++ y)) else none
 | .list xs, b => (lstD b).bind fun ys => if xs.length + ys.length ≤ bigN then some (.list (xs ++ ys)) else none
 | _, _ => none
noncomputable def mulD : D → D → Option D
 | .int a, b => (intD b).bind fun b => if okI a then some (.int (a * b)) else none
 | .list xs, b => (intD b).bind fun n => if 0 ≤ n ∧ n ≤ 1000 ∧ xs.length ≤ 100 then some (.list (List.replicate n.toNat xs).flatten) else none
 | _, _ => none
noncomputable def binD (op : Operator) (a b : D) : Option D := match op with
 | .Add => addD a b
 | .Sub => iiD (fun a b => some (.int (a - b))) a b
 | .Mult => mulD a b
 | .FloorDiv => iiD (fun a b => if b ≠ 0 ∧ b.natAbs < 1073741824 then some (.int (a.fdiv b)) else none) a b
 | .Mod => iiD (fun a b => if b ≠ 0 then some (.int (a.fmod b)) else none) a b
 | .Pow => iiD (fun a n => if 0 ≤ n ∧ n ≤ 1000 ∧ okI a then some (.int (a ^ n.toNat)) else none) a b
 | .BitOr => iiD (fun a b => some (.int (Builtin.bitOr a b))) a b
 | .BitAnd => iiD (fun a b => some (.int (Builtin.bitAnd a b))) a b
 | _ => none
inductive AddI : D → D → D → Prop
 | ii (x y : Int) : AddI (.int x) (.int y) (.int (x + y))
 | ib (x : Int) (y : Bool) : AddI (.int x) (.bool y) (.int (x + if y = true then 1 else 0))
 | ss (x y : Str) (h : x.length + y.length ≤ bigN) : AddI (.str x) (.str y) (.str (x ++ y))
 | ll (x y : List D) (h : x.length + y.length ≤ bigN) : AddI (.list x) (.list y) (.list (x ++ y))
theorem ifI {c : Prop} [Decidable c] {α} {a d : α} (h : (if c then some a else none) = some d) : c ∧ a = d := by
 by_cases hc : c
 · rw [if_pos hc] at h; exact ⟨hc, sinj h⟩
 · rw [if_neg hc] at h; exact nosome h
theorem add_inv {a b d : D} (h : addD a b = some d) : AddI a b d := by
 cases a with
 | int x => cases b with
   | int y => cases h; exact .ii x y
   | bool y => cases h; exact .ib x y
   | _ => cases h
 | str x => refine bs1 h fun y e h => ?_; obtain rfl := strD_eq e; refine Xa (ifI h) fun g q => ?_; subst q; exact .ss x y g
 | list x => refine bs1 h fun y e h => ?_; obtain rfl := lstD_eq e; refine Xa (ifI h) fun g q => ?_; subst q; exact .ll x y g
 | _ => cases h
inductive MulI : D → D → D → Prop
 | ii (x y : Int) (h : okI x) : MulI (.int x) (.int y) (.int (x * y))
 | li (x : List D) (n : Int) (h : 0 ≤ n ∧ n ≤ 1000 ∧ x.length ≤ 100) : MulI (.list x) (.int n) (.list (List.replicate n.toNat x).flatten)
theorem mul_inv {a b d : D} (h : mulD a b = some d) : MulI a b d := by
 cases a with
 | int x => refine bs1 h fun y e h => ?_; obtain rfl := intD_eq e; refine Xa (ifI h) fun g q => ?_; subst q; exact .ii x y g
 | list x => refine bs1 h fun y e h => ?_; obtain rfl := intD_eq e; refine Xa (ifI h) fun g q => ?_; subst q; exact .li x y g
 | _ => cases h
theorem okI_nat {a : Int} (h : okI a) : a.natAbs < 2 ^ 64 := by
 haveI := h.1; haveI := h.2; omega
section
theorem Reps.replicate  {xs : List D} {vs : List Value} (h : Reps C P xs vs) : ∀ n : Nat, Reps C P (List.replicate n xs).flatten (List.replicate n vs).flatten
 | 0 => by simp [Reps]
 | n + 1 => by
   simp only [List.replicate_succ, List.flatten_cons]
   exact Reps.append h (Reps.replicate h n)
theorem foldl_app (l : List (Array Value)) : ∀ a : Array Value, (List.foldl (fun x y => x ++ y) a l).toList = a.toList ++ (l.map (·.toList)).flatten := by
 induction l with
 | nil => intro a; simp
 | cons x r ih => intro a; rw [List.foldl_cons, ih]; simp
theorem bin_ok (op : Operator) (a b d : D) (e : binD op a b = some d) {m : Str → Option Value} {u v : Value} {Q : Value → Shared → Prop} (S : St C P W s) (n : NsM W L m)
   (ha : Rep C P a u) (hb : Rep C P b v) (h : Res C P W L Q d) : wpAny C.M A (binaryOp op u v) Q NoE s := by
 cases op
 case Add =>
   change addD a b = some d at e
   cases add_inv e with
   | ii x y => refine Xe ha fun t q1 => ?_; subst q1; refine Xe hb fun t' q1 => ?_; subst q1; exact add_int (h.same (S.toks _) ⟨_, rfl⟩)
   | ib x y => refine Xe ha fun t q1 => ?_; subst q1; rw [show v = _ from hb]; exact PySem.add_int_bool (h.same (S.toks _) ⟨_, rfl⟩)
   | ss x y hle =>
     refine Xe ha fun t q1 => ?_; subst q1; refine Xe hb fun t' q1 => ?_; subst q1
     exact add_str (fun t' tk => h.same (S.toks _) ⟨_, rfl⟩) (by rw [sizeLine_eq]; unfold bigN at *; omega)
   | ll xs ys hle =>
     refine Xeeeaaa ha fun l o vs q3 p1 q1 r1 => ?_; subst q3
     refine Xeeeaaa hb fun l' o' vs' q3 p2 q2 r2 => ?_; subst q3
     refine Xa (fr_of S n) fun Fm N => ?_
     refine add_lists Fm N (q1.list (S.p _ _ p1)) (q2.list (S.p _ _ p2)) (fun h' F' N' => ?_) (by rw [← r1.length, ← r2.length, sizeLine_eq]; unfold bigN at *; omega)
     refine Xeaa (S.back1 (tk := s.toks) n F' N' (size_none _)) fun W' g1 g2 g3 => ?_
     exact h _ _ _ _ g2 g3 g1 ⟨_, _, vs ++ vs', rfl, Mp.upd_self .., ⟨0, rfl⟩, (Reps.mono g2 _ r1).append (Reps.mono g2 _ r2)⟩
 case Sub =>
   obtain ⟨x, y, rfl, rfl, g⟩ := iiD_inv e
   cases g; refine Xe ha fun t q1 => ?_; subst q1; refine Xe hb fun t' q1 => ?_; subst q1; exact sub_int (h.same (S.toks _) ⟨_, rfl⟩)
 case Mult =>
   change mulD a b = some d at e
   cases mul_inv e with
   | ii x y okc =>
     refine Xe ha fun t q1 => ?_; subst q1; refine Xe hb fun t' q1 => ?_; subst q1
     exact mul_int (h.same (S.toks _) ⟨_, rfl⟩) (IntMulOk.of_left (intBits_le_64 (by have := okc.1; omega) (by have := okc.2; omega)))
   | li xs x hc =>
     refine Xeeeaaa ha fun l o vs q3 p1 w1 r1 => ?_; subst q3; refine Xe w1 fun k q1 => ?_; subst q1; refine Xe hb fun t' q1 => ?_; subst q1
     refine Xa (fr_of S n) fun Fm N => ?_
     have hl : vs.length ≤ 100 := by rw [← r1.length]; exact hc.2.2
     have hx : x.toNat ≤ 1000 := by omega
     refine mul_list Fm N (S.p _ _ p1) (by omega) (by omega) (by
       rw [List.size_toArray]
       exact Nat.le_trans (Nat.mul_le_mul hl hx) dc) fun h' F' N' => ?_
     refine Xeaa (S.back1 (tk := s.toks) n F' N' (size_none _)) fun W' g1 g2 g3 => ?_
     refine h _ _ _ _ g2 g3 g1 ⟨_, _, (List.replicate x.toNat vs).flatten, rfl, Mp.upd_self .., ⟨0, ?_⟩, (Reps.mono g2 _ r1).replicate _⟩
     have : ∀ z : Array Value, z.toList = (List.replicate x.toNat vs).flatten → ({ cls := .type "list", data := .seq z } : Obj) = { cls := .type "list", dict := none, data := .seq (List.replicate x.toNat vs).flatten.toArray 0, slots := #[] } := fun z hz => by rw [← hz]
     refine this _ ?_
     rw [foldl_app]
     by_cases he : vs = []
     · subst he; simp
     · have : vs.toArray.isEmpty = false := by simpa using he
       rw [this]; simp
 case FloorDiv =>
   obtain ⟨x, y, rfl, rfl, g⟩ := iiD_inv e
   split at g <;> cases g
   rename_i hc
   refine Xe ha fun t q1 => ?_; subst q1; refine Xe hb fun t' q1 => ?_; subst q1
   exact floordiv_int hc.1 (h.same (S.toks _) ⟨_, rfl⟩) (.inl (PyProof.noPylong_small hc.2))
 case Mod =>
   obtain ⟨x, y, rfl, rfl, g⟩ := iiD_inv e
   split at g <;> cases g
   rename_i hc
   refine Xe ha fun t q1 => ?_; subst q1; refine Xe hb fun t' q1 => ?_; subst q1
   exact mod_int' hc (h.same (S.toks _) ⟨_, rfl⟩)
 case Pow =>
   obtain ⟨x, y, rfl, rfl, g⟩ := iiD_inv e
   split at g <;> cases g
   rename_i hc
   refine Xe ha fun t q1 => ?_; subst q1; refine Xe hb fun t' q1 => ?_; subst q1
   exact pow_int_small hc.1 (by omega) (okI_nat hc.2.2) (h.same (S.toks _) ⟨_, rfl⟩)
 case BitOr =>
   obtain ⟨x, y, rfl, rfl, g⟩ := iiD_inv e
   cases g; refine Xe ha fun t q1 => ?_; subst q1; refine Xe hb fun t' q1 => ?_; subst q1; exact or_int (h.same (S.toks _) ⟨_, rfl⟩)
 case BitAnd =>
   obtain ⟨x, y, rfl, rfl, g⟩ := iiD_inv e
   cases g; refine Xe ha fun t q1 => ?_; subst q1; refine Xe hb fun t' q1 => ?_; subst q1; exact and_int (h.same (S.toks _) ⟨_, rfl⟩)
 all_goals (change (none : Option D) = some d at e; cases e)
noncomputable def fBin (op : Operator) (f g : FnD) (σ : LS) : Option (D × LS) :=
 (f σ).bind fun p => (g p.2).bind fun q => (binD op p.1 q.1).bind fun d => some (d, q.2)
theorem Res.of {Q : Value → Shared → Prop} {d : D} (hF : F env.locals) (R : RelEnv C vars env σ P W F vm own)
   (hQ : ∀ v P' W' F' own' s', St C P' W' s' → Step P W F P' W' F' → RelEnv C vars env σ P' W' F' vm own' → Rep C P' d v → Q v s') : Res C P W env.locals Q d :=
 fun v P' W' s' hp S' hs r => hQ v P' W' F own s' S' (hs.step hF hp) ((R.monoP hp).slk hs) r
theorem EOK_bin {op : Operator} {l r : Expr} {pos : Pos} {f g : FnD} (hl : EOK C k sc vars l f) (hr : EOK C k sc vars r g) : EOK C k sc vars (.BinOp l op r pos) (fBin op f g) := by
 constructor
 intro env A P W F vm own s σ σ' d Q G Rm S R hf hQ
 unfold fBin at hf
 refine bs2 hf fun a σ1 e1 hf => ?_
 refine bs2 hf fun b σ2 e2 hf => ?_
 refine bs1 hf fun dd e3 hf => ?_
 nomatch hf, hQ
 refine wpAny_BinOp (hl.go env A P W F vm own s σ σ1 a _ G Rm S R e1 fun u P1 W1 F1 own1 s1 S1 T1 R1 r1 => ?_)
 refine hr.go env A P1 W1 F1 vm own1 s1 σ1 σ2 b _ G Rm S1 R1 e2 fun v P2 W2 F2 own2 s2 S2 T2 R2 r2 => ?_
 refine Xe R2.vs.nsM fun m n => ?_
 exact bin_ok op a b _ e3 S2 n (Rep.mono T2.p a r1) r2 (Res.of R2.vs.locF R2 fun v P' W' F' own' s' S' T' R' r' => hQ v P' W' F' own' s' S' (T1.trans (T2.trans T')) R' r')
end
section
noncomputable def PostL (C : Cx) (vars : List Str) (env : Env) (P W : Mp) (F : Addr → Prop) (vm : Str → Option Value) (σ' : LS) (d : List D) (Q : List Value → Shared → Prop) : Prop := ∀ v P' W' F' own' s', St C P' W' s' → Step P W F P' W' F' → RelEnv C vars env σ' P' W' F' vm own' → Reps C P' d v → Q v s'
structure LOK (C : Cx) (k : Nat) (sc : Scope) (vars : List Str) (es : List Expr) (f : FnL) : Prop where
 go : ∀ (env : Env) (pos : Pos) (A : Around) (P W : Mp) (F : Addr → Prop) (vm : Str → Option Value) (own : Nat → Addr) (s : Shared) (σ σ' : LS) (d : List D) (Q : List Value → Shared → Prop),
   EnvG sc env → Room k A → St C P W s → RelEnv C vars env σ P W F vm own → f σ = some (d, σ') →
   PostL C vars env P W F vm σ' d Q →
   wpAny C.M A (spliced (backTo pos (starEach es env))) Q NoE s
noncomputable def fnl (σ : LS) : Option (List D × LS) := some ([], σ)
noncomputable def fC_ (f : FnD) (g : FnL) (σ : LS) : Option (List D × LS) :=
 (f σ).bind fun p => (g p.2).bind fun q => some (p.1 :: q.1, q.2)
theorem lnl : LOK C k sc vars [] fnl := by
 constructor
 intro env pos A P W F vm own s σ σ' d Q G _ S R hf hQ
 nomatch hf, hQ
 exact wpAny_pure (hQ [] P W F own s S (.refl ..) R Reps.nil)
theorem lcn {e : Expr} {es : List Expr} {f : FnD} {g : FnL} (he : EOK C k sc vars e f) (hes : LOK C k sc vars es g)
   (hs : ∀ env, starEach (e :: es) env = (false, eval e env) :: starEach es env) : LOK C k sc vars (e :: es) (fC_ f g) := by
 constructor
 intro env pos A P W F vm own s σ σ' d Q G Rm S R hf hQ
 unfold fC_ at hf
 refine bs2 hf fun a σ1 e1 hf => ?_
 refine bs2 hf fun b σ2 e2 hf => ?_
 nomatch hf, hQ
 rw [hs]
 show wpAny C.M A (spliced ((false, eval e env) :: backTo pos (starEach es env))) Q NoE s
 unfold spliced
 refine wpAny_bind (he.go env A P W F vm own s σ σ1 a _ G Rm S R e1 fun u P1 W1 F1 own1 s1 S1 T1 R1 r1 => ?_)
 refine wpAny_bind (wpAny_pure (wpAny_bind (wpAny_holding ?_)))
 refine hes.go env pos A P1 W1 F1 vm own1 s1 σ1 σ2 b _ G Rm S1 R1 e2 fun v P2 W2 F2 own2 s2 S2 T2 R2 r2 => ?_
 exact wpAny_pure (hQ _ P2 W2 F2 own2 s2 S2 (T1.trans T2) R2 ⟨u, v, rfl, Rep.mono T2.p a r1, r2⟩)
noncomputable def fTup (f : FnL) (σ : LS) : Option (D × LS) := (f σ).bind fun p => if p.1.length ≤ bigN then some (.tup p.1, p.2) else none
noncomputable def fLst (f : FnL) (σ : LS) : Option (D × LS) := (f σ).bind fun p => if p.1.length ≤ bigN then some (.list p.1, p.2) else none
theorem lC {e : Expr} {es : List Expr} {f : FnD} {g : FnL} (he : EOK C k sc vars e f) (hes : LOK C k sc vars es g) (hs : ∀ env, starEach (e :: es) env = (false, eval e env) :: starEach es env := by exact fun _ => rfl) : LOK C k sc vars (e :: es) (fC_ f g) := lcn he hes hs
theorem EOK_tup {es : List Expr} {kk : Nat} {pos : Pos} {f : FnL} (h : LOK C k sc vars es f) : EOK C k sc vars (.Tuple es kk pos) (fTup f) := by
 constructor
 intro env A P W F vm own s σ σ' d Q G Rm S R hf hQ
 unfold fTup at hf
 refine bs2 hf fun a σ1 e1 hf => ?_
 split at hf <;> cases hf
 rename_i hl
 refine wpAny_Tuple (h.go env pos A P W F vm own s σ σ1 a _ G Rm S R e1 fun v P1 W1 F1 own1 s1 S1 T1 R1 r1 => ⟨by rw [← r1.length, sizeLine_eq]; unfold bigN at hl; dsimp only at hl; lia, ?_⟩)
 have hle : P1.Le (P1.upd s1.heap.objs.size _) := Mp.Le.upd (o := { cls := .type "tuple", data := .seq v.toArray }) S1.freshP
 exact hQ _ _ W1 F1 own1 _ (S1.newP (tk := s1.toks) rfl) (T1.trans (.le hle)) (R1.monoP hle) ⟨_, _, v, rfl, Mp.upd_self .., ⟨0, rfl⟩, Reps.mono hle _ r1⟩
theorem EOK_lst {es : List Expr} {pos : Pos} {f : FnL} (h : LOK C k sc vars es f) : EOK C k sc vars (.List es pos) (fLst f) := by
 constructor
 intro env A P W F vm own s σ σ' d Q G Rm S R hf hQ
 unfold fLst at hf
 refine bs2 hf fun a σ1 e1 hf => ?_
 split at hf <;> cases hf
 rename_i hl
 refine wpAny_List (h.go env pos A P W F vm own s σ σ1 a _ G Rm S R e1 fun v P1 W1 F1 own1 s1 S1 T1 R1 r1 => ⟨by rw [← r1.length, sizeLine_eq]; unfold bigN at hl; dsimp only at hl; lia, ?_⟩)
 have hle : P1.Le (P1.upd s1.heap.objs.size _) := Mp.Le.upd (o := { cls := .type "list", data := .seq v.toArray }) S1.freshP
 exact hQ _ _ W1 F1 own1 _ (S1.newP (tk := s1.toks) rfl) (T1.trans (.le hle)) (R1.monoP hle) ⟨_, _, v, rfl, Mp.upd_self .., ⟨0, rfl⟩, Reps.mono hle _ r1⟩
noncomputable def subD (a b : D) : Option D := (intD b).bind fun i => match a with
 | .list xs => if 0 ≤ i ∧ i < 1000 then xs[i.toNat]? else none
 | .tup xs => if 0 ≤ i ∧ i < 1000 then xs[i.toNat]? else none
 | .str x => if 0 ≤ i ∧ i < 1000 then (x.cps[i.toNat]?).map fun c => .str ⟨#[c]⟩ else none
 | .dI es => atI es i
 | _ => none
theorem seqIndex_nat {i : Int} {n : Nat} (h0 : 0 ≤ i) (h : i.toNat < n) : seqIndex? i n = some i.toNat := by
 unfold seqIndex?
 have h1 : ¬ i < 0 := by omega
 simp only [h1, if_false]
 rw [if_pos (by simp; omega)]
inductive SubI : D → D → D → Prop
 | li (xs : List D) (i : Int) (d : D) (h : 0 ≤ i ∧ i < 1000) (e : xs[i.toNat]? = some d) : SubI (.list xs) (.int i) d
 | ti (xs : List D) (i : Int) (d : D) (h : 0 ≤ i ∧ i < 1000) (e : xs[i.toNat]? = some d) : SubI (.tup xs) (.int i) d
 | si (x : Str) (i : Int) (c : Nat) (h : 0 ≤ i ∧ i < 1000) (e : x.cps[i.toNat]? = some c) : SubI (.str x) (.int i) (.str ⟨#[c]⟩)
 | di (es : List (Int × D)) (i : Int) (d : D) (e : atI es i = some d) : SubI (.dI es) (.int i) d
theorem ifG {c : Prop} [Decidable c] {α} {a : Option α} {d : α} (h : (if c then a else none) = some d) : c ∧ a = some d := by
 by_cases hc : c
 · rw [if_pos hc] at h; exact ⟨hc, h⟩
 · rw [if_neg hc] at h; exact nosome h
theorem sub_inv {a b d : D} (h : subD a b = some d) : SubI a b d := by
 refine bs1 h fun i e h => ?_
 obtain rfl := intD_eq e
 cases a with
 | list xs => refine Xa (ifG h) fun g e => ?_; exact .li xs i d g e
 | tup xs => refine Xa (ifG h) fun g e => ?_; exact .ti xs i d g e
 | str x =>
   refine Xa (ifG h) fun g e => ?_
   refine ms1 e fun c e1 e2 => ?_
   subst e2; exact .si x i c g e1
 | dI es => exact .di es i d h
 | _ => cases h
theorem sub_ok {value slice : Expr} {a b d : D} (e : subD a b = some d) {u v : Value} {Q : Value → Shared → Prop} (S : St C P W s)
   (ha : Rep C P a u) (hb : Rep C P b v) (h : Res C P W L Q d)
   (hs : ∀ o i : Value, subscripted slice false o i = operate [o, i] (getItem o i)) : wpAny C.M A (subscriptTail value slice u v) Q NoE s := by
 cases sub_inv e with
 | li xs i _ hi e =>
   refine Xeeeaaa ha fun l o vs q3 p1 q1 r1 => ?_; subst q3
   refine Xe hb fun t q1 => ?_; subst q1
   refine Xea (r1.get _ e) fun w g1 g2 => ?_
   haveI hl := q1.list (S.p _ _ p1)
   exact tail_any hl.typeIs slot_list_getitem.lookup (wpAny_getItem_list hl hi.1 (by omega) (by simpa using g1) (h.same S g2)) (hs _ _)
 | ti xs i _ hi e =>
   refine Xeeeaaa ha fun l o vs q3 p1 q1 r1 => ?_; subst q3
   refine Xe hb fun t q1 => ?_; subst q1
   refine Xea (r1.get _ e) fun w g1 g2 => ?_
   exact item_tupleT (q1.tup (S.p _ _ p1)) (by omega) (by omega) (seqIndex_nat hi.1 (List.getElem?_eq_some_iff.mp g1).1) g1 (h.same S g2) (hs _ _)
 | si x i c hi q =>
   refine Xe ha fun t q1 => ?_; subst q1
   refine Xe hb fun t' q1 => ?_; subst q1
   have hlt : i.toNat < x.length := (Array.getElem?_eq_some_iff.mp q).1
   refine tail_any (typeIs_str s x t) PySem.F.slot_str_getitem.lookup (PySem.P.getItem_str (c := c) ?_ ?_ (h.same (S.toks _) ⟨_, rfl⟩)) (hs _ _)
   · have h1 : decide (i < -(2 ^ 63 : Int)) = false := decide_eq_false (by omega)
     haveI h2 : decide (i ≥ 2 ^ 63) = false := decide_eq_false (by omega)
     rw [h1, h2]; rfl
   · rw [seqIndex_nat hi.1 hlt]; exact q
 | di es i _ e =>
   refine Xeeeaaaa ha fun l o kvs q3 p1 q1 r1 _ => ?_; subst q3
   refine Xe hb fun t q1 => ?_; subst q1
   refine Xea (r1.at_some e) fun w g1 g2 => ?_
   haveI hd : s.heap.DictOf C.ki l kvs := Heap.dictOf_iff.mpr ⟨o, S.p _ _ p1, q1⟩
   haveI hm := Heap.DictOf.mapOf hd
   exact tail_any hm.typeIs slot_dict_getitem.lookup (wpAny_getItem_of (intKind_is _ _ _ _) hm g1 (h.same (S.toks _) g2)) (hs _ _)
noncomputable def fSub (f g : FnD) (σ : LS) : Option (D × LS) :=
 (f σ).bind fun p => (g p.2).bind fun q => (subD p.1 q.1).bind fun d => some (d, q.2)
theorem EOK_sub {l r : Expr} {pos : Pos} {f g : FnD} (hl : EOK C k sc vars l f) (hr : EOK C k sc vars r g)
   (hs : ∀ o i : Value, subscripted r false o i = operate [o, i] (getItem o i)) : EOK C k sc vars (.Subscript l r pos) (fSub f g) := by
 constructor
 intro env A P W F vm own s σ σ' d Q G Rm S R hf hQ
 unfold fSub at hf
 refine bs2 hf fun a σ1 e1 hf => ?_
 refine bs2 hf fun b σ2 e2 hf => ?_
 refine bs1 hf fun dd e3 hf => ?_
 nomatch hf, hQ
 refine Subscript_ (hl.go env A P W F vm own s σ σ1 a _ G Rm S R e1 fun u P1 W1 F1 own1 s1 S1 T1 R1 r1 => ?_)
 refine hr.go env A P1 W1 F1 vm own1 s1 σ1 σ2 b _ G Rm S1 R1 e2 fun v P2 W2 F2 own2 s2 S2 T2 R2 r2 => ?_
 exact sub_ok e3 S2 (Rep.mono T2.p a r1) r2 (Res.of R2.vs.locF R2 fun v P' W' F' own' s' S' T' R' r' => hQ v P' W' F' own' s' S' (T1.trans (T2.trans T')) R' r') hs
end
section
noncomputable def PostP (C : Cx) (vars : List Str) (env : Env) (P W : Mp) (F : Addr → Prop) (vm : Str → Option Value) (σ' : LS) (d : Option Int) (Q : Value → Shared → Prop) : Prop := ∀ v P' W' F' own' s', St C P' W' s' → Step P W F P' W' F' → RelEnv C vars env σ' P' W' F' vm own' → IsPart v d → Q v s'
structure POK (C : Cx) (k : Nat) (sc : Scope) (vars : List Str) (e : Option Expr) (f : LS → Option (Option Int × LS)) : Prop where
 go : ∀ (env : Env) (A : Around) (P W : Mp) (F : Addr → Prop) (vm : Str → Option Value) (own : Nat → Addr) (s : Shared) (σ σ' : LS) (d : Option Int) (Q : Value → Shared → Prop),
   EnvG sc env → Room k A → St C P W s → RelEnv C vars env σ P W F vm own → f σ = some (d, σ') →
   PostP C vars env P W F vm σ' d Q →
   wpAny C.M A (evalPart e env) Q NoE s
noncomputable def fNoPart (σ : LS) : Option (Option Int × LS) := some (none, σ)
noncomputable def fPart (f : FnD) (σ : LS) : Option (Option Int × LS) :=
 (f σ).bind fun p => match p.1 with | .int i => some (some i, p.2) | _ => none
theorem POK_none : POK C k sc vars none fNoPart := by
 constructor
 intro env A P W F vm own s σ σ' d Q G _ S R hf hQ
 nomatch hf, hQ
 exact wpAny_evalPart_none (hQ .none P W F own s S (.refl ..) R .none)
theorem POK_some {e : Expr} {f : FnD} (h : EOK C k sc vars e f) : POK C k sc vars (some e) (fPart f) := by
 constructor
 intro env A P W F vm own s σ σ' d Q G Rm S R hf hQ
 unfold fPart at hf
 refine bs2 hf fun a σ1 e1 hf => ?_
 dsimp only at hf
 split at hf <;> cases hf
 refine wpAny_evalPart_some (h.go env A P W F vm own s σ _ _ _ G Rm S R e1 fun v P' W' F' own' s' S' T' R' r' => ?_)
 obtain ⟨t, rfl⟩ := r'
 exact hQ _ P' W' F' own' s' S' T' R' (.int _ t)
noncomputable def sliceL (xs : List D) (lo hi : Option Int) : List D := (xs.drop (lo.elim 0 (clipAt xs.length))).take (hi.elim xs.length (clipAt xs.length) - lo.elim 0 (clipAt xs.length))
theorem Reps.slice {xs : List D} {vs : List Value} (h : Reps C P xs vs) (lo hi : Option Int) :
   ∃ us, slicePick vs.toArray lo hi none = us.toArray ∧ Reps C P (sliceL xs lo hi) us := by
 refine Iea _ (slicePick_plain _ _ _) ?_
 unfold sliceL
 rw [h.length, List.size_toArray]
 exact (h.drop _).take _
noncomputable def fSlice (f : FnD) (g h : LS → Option (Option Int × LS)) (σ : LS) : Option (D × LS) :=
 (f σ).bind fun p => (g p.2).bind fun q => (h q.2).bind fun r => match p.1 with
   | .list xs => if xs.length ≤ bigN then some (.list (sliceL xs q.1 r.1), r.2) else none
   | _ => none
theorem EOK_slice {l : Expr} {lo hi : Option Expr} {p pos : Pos} {f : FnD} {g h : LS → Option (Option Int × LS)} (hl : EOK C k sc vars l f) (hg : POK C k sc vars lo g) (hh : POK C k sc vars hi h) :
   EOK C k sc vars (.Subscript l (.Slice lo hi none p) pos) (fSlice f g h) := by
 constructor
 intro env A P W F vm own s σ σ' d Q G Rm S R hf hQ
 unfold fSlice at hf
 refine bs2 hf fun a σ1 e1 hf => ?_
 refine bs2 hf fun b σ2 e2 hf => ?_
 refine bs2 hf fun c σ3 e3 hf => ?_
 dsimp only at hf
 split at hf
 case h_2 => cases hf
 rename_i xs
 split at hf
 case isFalse => exact ns hf
 rename_i hx
 (revert hQ; first | refine sp hf ?_ | refine spp hf ?_ | cases (hf)); intro hQ
 refine Subscript_ (hl.go env A P W F vm own s σ σ1 _ _ G Rm S R e1 fun u P1 W1 F1 own1 s1 S1 T1 R1 r1 => ?_)
 refine wpAny_Slice (hg.go env A P1 W1 F1 vm own1 s1 σ1 σ2 b _ G Rm S1 R1 e2 fun vl P2 W2 F2 own2 s2 S2 T2 R2 pl => ?_)
 refine hh.go env A P2 W2 F2 vm own2 s2 σ2 σ' c _ G Rm S2 R2 e3 fun vh P3 W3 F3 own3 s3 S3 T3 R3 ph => wpAny_evalPart_none ?_
 obtain ⟨a, o, vs, rfl, p1, q1, r1⟩ := Rep.mono (T2.p.trans T3.p) _ r1
 have S4 := S3.ext (h' := s3.heap.push { cls := .type "slice", data := .fields #[vl, vh, .none] }) (tk := s3.toks) fun a o e => Heap.get?_push_of_some _ e
 haveI hL := q1.list (S4.p _ _ p1)
 obtain ⟨us, eu, ru⟩ := r1.slice b c
 refine tail_any (ops := [.ref s3.heap.objs.size, .ref a]) hL.typeIs slot_list_getitem.lookup (wpAny_getItem_list_slice hL ⟨_, Heap.get?_push_size _ rfl, rfl, rfl⟩ pl ph .none (by intro q; cases q) ?_ (by rw [List.size_toArray, ← r1.length, sizeLine_eq]; unfold bigN at hx; lia)) rfl
 rw [eu]
 haveI hle : P3.Le (P3.upd _ _) := Mp.Le.upd (o := { cls := .type "list", data := .seq us.toArray }) S4.freshP
 exact hQ _ _ W3 F3 own3 _ (S4.newP (tk := s3.toks) rfl) (T1.trans (T2.trans (T3.trans (.le hle)))) (R3.monoP hle) ⟨_, _, us, rfl, Mp.upd_self .., ⟨0, rfl⟩, Reps.mono hle _ ru⟩
end
section
noncomputable def CmpS (C : Cx) (k : Nat) (op : CmpOp) (g : D → D → Option Bool) : Prop :=
 ∀ (A : Around) (P W : Mp) (s : Shared) (a b : D) (r : Bool) (u v : Value) (Q : Value → Shared → Prop), Room k A → St C P W s → Rep C P a u → Rep C P b v → g a b = some r →
   (∀ tk, Q (.bool r) { s with toks := tk }) → wpAny C.M A (compareOp op u v) Q NoE s
noncomputable def strsOf : List D → Option (List Str)
 | [] => some []
 | .str x :: r => (strsOf r).map (x :: ·)
 | _ => none
theorem reps_strs : ∀ {xs : List D} {ys : List Str} {vs : List Value}, strsOf xs = some ys → Reps C P xs vs → StrsAre vs ys
 | [], _, _, e, h => by cases e; rw [show _ = [] from h]; exact .nil
 | x :: xs, _, _, e, ⟨v, r, e1, e2, e3⟩ => by
   cases x <;> first | (simp [strsOf] at e; done) | skip
   rename_i x
   cases hx : strsOf xs with
   | none => simp [strsOf, hx] at e
   | some zs =>
     simp [strsOf, hx] at e
     subst e e1
     refine Xe e2 fun t q1 => ?_; subst q1
     exact .cons x t (reps_strs hx e3)
noncomputable def cmpI : CmpOp → Int → Int → Option Bool
 | .Eq, a, b => some (a == b)
 | .NotEq, a, b => some (a != b)
 | .Lt, a, b => some (decide (a < b))
 | .LtE, a, b => some (decide (a ≤ b))
 | .Gt, a, b => some (decide (a > b))
 | .GtE, a, b => some (decide (a ≥ b))
 | _, _, _ => none
noncomputable def intsD (a b : D) : Option (Int × Int) := (intD a).bind fun x => (intD b).map fun y => (x, y)
theorem intsD_inv {a b : D} {p : Int × Int} (h : intsD a b = some p) : a = .int p.1 ∧ b = .int p.2 := by
 refine bs1 h fun x e1 h => ?_
 refine ms1 h fun y e2 h => ?_
 subst h
 exact ⟨intD_eq e1, intD_eq e2⟩
noncomputable def strsD (a b : D) : Option (Str × Str) := (strD a).bind fun x => (strD b).map fun y => (x, y)
theorem strsD_inv {a b : D} {p : Str × Str} (h : strsD a b = some p) : a = .str p.1 ∧ b = .str p.2 := by
 refine bs1 h fun x e1 h => ?_
 refine ms1 h fun y e2 h => ?_
 subst h
 exact ⟨strD_eq e1, strD_eq e2⟩
noncomputable def nonD : D → Option Unit
 | .none => some ()
 | _ => none
theorem nonD_eq {d : D} {n : Unit} (h : nonD d = some n) : d = .none := by
 cases d with
 | none => rfl
 | _ => cases h
noncomputable def tyD : D → Option String
 | .typ n => some n
 | _ => none
theorem tyD_eq {d : D} {n : String} (h : tyD d = some n) : d = .typ n := by
 cases d with
 | typ x => cases h; rfl
 | _ => cases h
noncomputable def dID : D → Option (List (Int × D))
 | .dI n => some n
 | _ => none
theorem dID_eq {d : D} {n : List (Int × D)} (h : dID d = some n) : d = .dI n := by
 cases d with
 | dI x => cases h; rfl
 | _ => cases h
noncomputable def isD : D → D → Option Bool
 | .none, b => (nonD b).map fun _ => true
 | .str _, b => (nonD b).map fun _ => false
 | .list _, b => (nonD b).map fun _ => false
 | .typ a, b => (tyD b).map fun b => a == b
 | _, _ => none
inductive IsI : D → D → Bool → Prop
 | nn : IsI .none .none true
 | sn (x : Str) : IsI (.str x) .none false
 | ln (x : List D) : IsI (.list x) .none false
 | tt (a b : String) : IsI (.typ a) (.typ b) (a == b)
theorem is_inv {a b : D} {r : Bool} (h : isD a b = some r) : IsI a b r := by
 cases a with
 | none => refine ms1 h fun _ e q => ?_; obtain rfl := nonD_eq e; subst q; exact .nn
 | str x => refine ms1 h fun _ e q => ?_; obtain rfl := nonD_eq e; subst q; exact .sn x
 | list x => refine ms1 h fun _ e q => ?_; obtain rfl := nonD_eq e; subst q; exact .ln x
 | typ x => refine ms1 h fun y e q => ?_; obtain rfl := tyD_eq e; subst q; exact .tt x y
 | _ => cases h
noncomputable def inD : D → D → Option Bool
 | .int i, b => (dID b).map fun es => (atI es i).isSome
 | .str x, b => (lstD b).bind fun xs => (strsOf xs).map fun ys => ys.any (· == x)
 | _, _ => none
inductive InI : D → D → Bool → Prop
 | ii (i : Int) (es : List (Int × D)) : InI (.int i) (.dI es) (atI es i).isSome
 | ss (x : Str) (xs : List D) (ys : List Str) (h : strsOf xs = some ys) : InI (.str x) (.list xs) (ys.any (· == x))
theorem in_inv {a b : D} {r : Bool} (h : inD a b = some r) : InI a b r := by
 cases a with
 | int i => refine ms1 h fun es e q => ?_; obtain rfl := dID_eq e; subst q; exact .ii i es
 | str x => refine bs1 h fun xs e h => ?_; obtain rfl := lstD_eq e; refine ms1 h fun ys e q => ?_; subst q; exact .ss x xs ys e
 | _ => cases h
noncomputable def ninD (a b : D) : Option Bool := (intD a).bind fun i => (dID b).map fun es => !(atI es i).isSome
noncomputable def cmpD (op : CmpOp) (a b : D) : Option Bool := match intsD a b with
 | some p => cmpI op p.1 p.2
 | none => match op with
   | .Eq => (strsD a b).map fun p => decide (p.1 = p.2)
   | .NotEq => (strsD a b).map fun p => !decide (p.1 = p.2)
   | .Is => isD a b
   | .IsNot => (isD a b).map (!·)
   | .In => inD a b
   | .NotIn => ninD a b
   | _ => none
theorem strBeq (x y : Str) : (x.cps.toList == y.cps.toList) = decide (x = y) := by
 by_cases h : x = y
 · subst h; simp
 · haveI : ¬ x.cps.toList = y.cps.toList := fun e => h (by
     obtain ⟨w1⟩ := x; obtain ⟨a⟩ := w1; obtain ⟨w2⟩ := y; obtain ⟨b⟩ := w2
     simp at e; rw [e])
   rw [decide_eq_false h]; exact beq_eq_false_iff_ne.mpr this
theorem typBeq (x y : String) : (Value.type x == Value.type y) = (x == y) := by
 by_cases h : x = y
 · subst h; simp
 · rw [beq_eq_false_iff_ne.mpr h]; exact beq_eq_false_iff_ne.mpr fun e => h (by injection e)
theorem cmp_ok (op : CmpOp) : CmpS C k op (cmpD op) := by
 intro A P W s a b r u v Q Rm S ha hb e h
 have h0 : Q (.bool r) s := h s.toks
 unfold cmpD at e
 cases hi : intsD a b with
 | some p =>
   rw [hi] at e
   dsimp only at e
   refine Xa (intsD_inv hi) fun q0 q1 => ?_; subst q0; subst q1
   refine Xe ha fun t q1 => ?_; subst q1; refine Xe hb fun t' q1 => ?_; subst q1
   cases op
   case Eq => cases e; exact PySem.P.eq_int h0
   case NotEq => cases e; exact PySem.P.ne_int h0
   case Lt => cases e; exact PySem.P.lt_int h0
   case LtE => cases e; exact PySem.P.le_int h0
   case Gt => cases e; exact PySem.P.gt_int h0
   case GtE => cases e; exact PySem.P.ge_int h0
   all_goals cases e
 | none =>
   rw [hi] at e
   dsimp only at e
   cases op
   case Eq =>
     refine ms1 e fun p e1 e2 => ?_
     cases e2
     refine Xa (strsD_inv e1) fun q0 q1 => ?_; subst q0; subst q1
     refine Xe ha fun t q1 => ?_; subst q1; refine Xe hb fun t' q1 => ?_; subst q1
     exact PySem.P.eq_str (by rw [strBeq]; exact h0)
   case NotEq =>
     refine ms1 e fun p e1 e2 => ?_
     cases e2
     refine Xa (strsD_inv e1) fun q0 q1 => ?_; subst q0; subst q1
     refine Xe ha fun t q1 => ?_; subst q1; refine Xe hb fun t' q1 => ?_; subst q1
     exact PySem.P.ne_str (by unfold bne; rw [strBeq]; exact h0)
   case Is =>
     dsimp only at e
     cases is_inv e with
     | nn => rw [show u = _ from ha, show v = _ from hb]; exact wpAny_is_self rfl h0
     | sn => refine Xe ha fun t q1 => ?_; subst q1; rw [show v = _ from hb]; exact wpAny_is_other rfl (by simp) h0
     | ln => refine Xeeea ha fun l o vs q3 _ => ?_; subst q3; rw [show v = _ from hb]; exact wpAny_is_other rfl (by simp) h0
     | tt x y => rw [show u = _ from ha, show v = _ from hb]; exact wpAny_is_plain rfl (by rw [typBeq]; exact h0)
   case IsNot =>
     refine ms1 e fun q e1 e2 => ?_
     cases e2
     cases is_inv e1 with
     | nn => rw [show u = _ from ha, show v = _ from hb]; exact wpAny_isNot_self rfl h0
     | sn => refine Xe ha fun t q1 => ?_; subst q1; rw [show v = _ from hb]; exact wpAny_isNot_other rfl (by simp) h0
     | ln => refine Xeeea ha fun l o vs q3 _ => ?_; subst q3; rw [show v = _ from hb]; exact wpAny_isNot_other rfl (by simp) h0
     | tt x y => rw [show u = _ from ha, show v = _ from hb]; exact wpAny_isNot_plain rfl (by rw [typBeq]; exact h0)
   case In =>
     dsimp only at e
     cases in_inv e with
     | ii i es =>
       refine Xe ha fun t q1 => ?_; subst q1
       refine Xeeeaaaa hb fun l o kvs q3 p1 q1 r1 lo => ?_; subst q3
       have hd : s.heap.DictOf C.ki l kvs := Heap.dictOf_iff.mpr ⟨o, S.p _ _ p1, q1⟩
       refine wpAny_in_of (intKind_is _ _ _ _) (beq_eq_false_iff_ne.mpr (Nat.ne_of_gt lo)) (Heap.DictOf.mapOf hd) ?_
       cases hi : atI es i with
       | none => rw [r1.at_none hi]; rw [hi] at h; exact h _
       | some d => refine Xea (r1.at_some hi) fun w g1 _ => ?_; rw [g1]; rw [hi] at h; exact h _
     | ss x xs ys hx =>
       refine Xe ha fun t q1 => ?_; subst q1
       refine Xeeeaaa hb fun l o vs q3 p1 q1 r1 => ?_; subst q3
       exact in_list_strs (q1.list (S.p _ _ p1)) (reps_strs hx r1) h0
   case NotIn =>
     dsimp only at e
     refine bs1 e fun i e1 e3 => ?_
     refine ms1 e3 fun es e2 e4 => ?_
     obtain rfl := intD_eq e1
     obtain rfl := dID_eq e2
     obtain rfl := e4
     refine Xe ha fun t q1 => ?_; subst q1
     refine Xeeeaaaa hb fun l o kvs q3 p1 q1 r1 lo => ?_; subst q3
     haveI hd : s.heap.DictOf C.ki l kvs := Heap.dictOf_iff.mpr ⟨o, S.p _ _ p1, q1⟩
     refine wpAny_notIn_of (intKind_is _ _ _ _) (beq_eq_false_iff_ne.mpr (Nat.ne_of_gt lo)) (Heap.DictOf.mapOf hd) ?_
     cases hi : atI es i with
     | none => rw [r1.at_none hi]; rw [hi] at h; exact h _
     | some d => refine Xea (r1.at_some hi) fun w g1 _ => ?_; rw [g1]; rw [hi] at h; exact h _
   all_goals cases e
noncomputable def fCmp (g : D → D → Option Bool) (f1 f2 : FnD) (σ : LS) : Option (Bool × LS) :=
 (f1 σ).bind fun p => (f2 p.2).bind fun q => (g p.1 q.1).bind fun d => some (d, q.2)
noncomputable def fB (f : FnB) (σ : LS) : Option (D × LS) := (f σ).map fun p => (.bool p.1, p.2)
theorem EOK_cmp {op : CmpOp} {l r : Expr} {pos : Pos} {f1 f2 : FnD} {g : D → D → Option Bool} (hc : CmpS C k op g) (hl : EOK C k sc vars l f1) (hr : EOK C k sc vars r f2)
   (hm : behindInMarks op r = false) : EOK C k sc vars (.Compare l [op] [r] pos) (fB (fCmp g f1 f2)) := by
 constructor
 intro env A P W F vm own s σ σ' d Q G Rm S R hf hQ
 unfold fB fCmp at hf
 refine ms2 hf fun rb σ'' e0 hf => ?_
 nomatch hf, hQ
 refine bs2 e0 fun a σ1 e1 hf => ?_
 refine bs2 hf fun b σ2 e2 hf => ?_
 refine bs1 hf fun dd e3 hf => ?_
 nomatch hf, hQ
 refine wpAny_Compare1 (hl.go env A P W F vm own s σ σ1 a _ G Rm S R e1 fun u P1 W1 F1 own1 s1 S1 T1 R1 r1 => ?_) hm
 refine hr.go env A P1 W1 F1 vm own1 s1 σ1 _ b _ G Rm S1 R1 e2 fun v P2 W2 F2 own2 s2 S2 T2 R2 r2 => ?_
 exact hc A P2 W2 s2 a b _ u v _ Rm S2 (Rep.mono T2.p a r1) r2 e3 fun tk => hQ _ P2 W2 F2 own2 _ (S2.toks tk) (T1.trans T2) R2 rfl
theorem TOK_cmp {op : CmpOp} {l r : Expr} {pos : Pos} {f1 f2 : FnD} {g : D → D → Option Bool} (hc : CmpS C k op g) (hl : EOK C k sc vars l f1) (hr : EOK C k sc vars r f2)
   (hm : behindInMarks op r = false) : TOK C k sc vars (.Compare l [op] [r] pos) (fCmp g f1 f2) := by
 constructor
 intro env A P W F vm own s σ σ' d Q G Rm S R hf hQ
 unfold fCmp at hf
 refine bs2 hf fun a σ1 e1 hf => ?_
 refine bs2 hf fun b σ2 e2 hf => ?_
 refine bs1 hf fun dd e3 hf => ?_
 nomatch hf, hQ
 refine wpAny_isTrue_Compare1 (hl.go env A P W F vm own s σ σ1 a _ G Rm S R e1 fun u P1 W1 F1 own1 s1 S1 T1 R1 r1 => ?_) hm
 refine hr.go env A P1 W1 F1 vm own1 s1 σ1 _ b _ G Rm S1 R1 e2 fun v P2 W2 F2 own2 s2 S2 T2 R2 r2 => ?_
 exact hc A P2 W2 s2 a b _ u v _ Rm S2 (Rep.mono T2.p a r1) r2 e3 fun tk => wpAny_truthy_bool (hQ P2 W2 F2 own2 _ (S2.toks tk) (T1.trans T2) R2)
noncomputable def truD : D → Option Bool
 | .bool b => some b
 | .none => some false
 | _ => none
noncomputable def fTru (f : FnD) (σ : LS) : Option (Bool × LS) := (f σ).bind fun p => (truD p.1).map fun b => (b, p.2)
theorem TOK_val {e : Expr} {f : FnD} (h : EOK C k sc vars e f) (he : ∀ env whole, isTrue e env whole = (do let v ← whole; standAt e.pos; holding [v] (truthy v))) : TOK C k sc vars e (fTru f) := by
 constructor
 intro env A P W F vm own s σ σ' d Q G Rm S R hf hQ
 unfold fTru at hf
 refine bs2 hf fun a σ1 e1 hf => ?_
 refine ms1 hf fun b e2 hf => ?_
 nomatch hf, hQ
 refine wpAny_isTrue_value (h.go env A P W F vm own s σ _ a _ G Rm S R e1 fun u P1 W1 F1 own1 s1 S1 T1 R1 r1 => ?_) (he _ _)
 cases a <;> first | exact ns e2 | (cases e2; done) | skip
 · cases e2; rw [show u = _ from r1]; exact fun _ _ _ => hQ P1 W1 F1 own1 s1 S1 T1 R1
 · cases e2; rw [show u = _ from r1]; exact wpAny_truthy_bool (hQ P1 W1 F1 own1 s1 S1 T1 R1)
structure AOK (C : Cx) (k : Nat) (sc : Scope) (vars : List Str) (op : BoolOp) (es : List Expr) (f : FnB) : Prop where
 go : ∀ (env : Env) (A : Around) (P W : Mp) (F : Addr → Prop) (vm : Str → Option Value) (own : Nat → Addr) (s : Shared) (σ σ' : LS) (d : Bool) (Q : Bool → Shared → Prop),
   EnvG sc env → Room k A → St C P W s → RelEnv C vars env σ P W F vm own → f σ = some (d, σ') →
   PostT C vars env P W F vm σ' (Q d) →
   wpAny C.M A (allTrue op es env) Q NoE s
noncomputable def fAndN (σ : LS) : Option (Bool × LS) := some (true, σ)
noncomputable def fOrN (σ : LS) : Option (Bool × LS) := some (false, σ)
noncomputable def fAnd (f g : FnB) (σ : LS) : Option (Bool × LS) := (f σ).bind fun p => if p.1 = true then g p.2 else some (false, p.2)
noncomputable def fOr (f g : FnB) (σ : LS) : Option (Bool × LS) := (f σ).bind fun p => if p.1 = true then some (true, p.2) else g p.2
theorem AOK_andN : AOK C k sc vars .And [] fAndN := by
 constructor
 intro env A P W F vm own s σ σ' d Q G Rm S R hf hQ
 cases hf; exact wpAny_allTrue_And_nil (hQ P W F own s S (.refl ..) R)
theorem AOK_orN : AOK C k sc vars .Or [] fOrN := by
 constructor
 intro env A P W F vm own s σ σ' d Q G Rm S R hf hQ
 cases hf; exact wpAny_allTrue_Or_nil (hQ P W F own s S (.refl ..) R)
theorem AOK_and {e : Expr} {es : List Expr} {f g : FnB} (h : TOK C k sc vars e f) (hs : AOK C k sc vars .And es g) : AOK C k sc vars .And (e :: es) (fAnd f g) := by
 constructor
 intro env A P W F vm own s σ σ' d Q G Rm S R hf hQ
 unfold fAnd at hf
 refine bs2 hf fun a σ1 e1 hf => ?_
 refine wpAny_allTrue_And_cons (h.go env A P W F vm own s σ σ1 a _ G Rm S R e1 fun P1 W1 F1 own1 s1 S1 T1 R1 => ?_)
 cases a with
 | false => cases hf; exact hQ P1 W1 F1 own1 s1 S1 T1 R1
 | true => exact hs.go env A P1 W1 F1 vm own1 s1 σ1 σ' d _ G Rm S1 R1 hf fun P2 W2 F2 own2 s2 S2 T2 R2 => hQ P2 W2 F2 own2 s2 S2 (T1.trans T2) R2
theorem AOK_or {e : Expr} {es : List Expr} {f g : FnB} (h : TOK C k sc vars e f) (hs : AOK C k sc vars .Or es g) : AOK C k sc vars .Or (e :: es) (fOr f g) := by
 constructor
 intro env A P W F vm own s σ σ' d Q G Rm S R hf hQ
 unfold fOr at hf
 refine bs2 hf fun a σ1 e1 hf => ?_
 refine wpAny_allTrue_Or_cons (h.go env A P W F vm own s σ σ1 a _ G Rm S R e1 fun P1 W1 F1 own1 s1 S1 T1 R1 => ?_)
 cases a with
 | true => cases hf; exact hQ P1 W1 F1 own1 s1 S1 T1 R1
 | false => exact hs.go env A P1 W1 F1 vm own1 s1 σ1 σ' d _ G Rm S1 R1 hf fun P2 W2 F2 own2 s2 S2 T2 R2 => hQ P2 W2 F2 own2 s2 S2 (T1.trans T2) R2
theorem TOK_bool {op : BoolOp} {es : List Expr} {pos : Pos} {f : FnB} (h : AOK C k sc vars op es f) : TOK C k sc vars (.BoolOp op es pos) f := by
 constructor
 intro env A P W F vm own s σ σ' d Q G Rm S R hf hQ
 exact wpAny_isTrue_BoolOp (h.go env A P W F vm own s σ σ' d _ G Rm S R hf hQ)
noncomputable def fIf (t : FnB) {α : Type} (f g : LS → Option (α × LS)) (σ : LS) : Option (α × LS) := (t σ).bind fun p => if p.1 = true then f p.2 else g p.2
theorem EOK_if {t b o : Expr} {pos : Pos} {ft : FnB} {f g : FnD} (ht : TOK C k sc vars t ft) (hb : EOK C k sc vars b f) (ho : EOK C k sc vars o g) :
   EOK C k sc vars (.IfExp t b o pos) (fIf ft f g) := by
 constructor
 intro env A P W F vm own s σ σ' d Q G Rm S R hf hQ
 unfold fIf at hf
 refine bs2 hf fun a σ1 e1 hf => ?_
 refine wpAny_IfExp (ht.go env A P W F vm own s σ σ1 a _ G Rm S R e1 fun P1 W1 F1 own1 s1 S1 T1 R1 => ?_)
 cases a with
 | true => exact hb.go env A P1 W1 F1 vm own1 s1 σ1 σ' d _ G Rm S1 R1 hf fun v P2 W2 F2 own2 s2 S2 T2 R2 => hQ v P2 W2 F2 own2 s2 S2 (T1.trans T2) R2
 | false => exact ho.go env A P1 W1 F1 vm own1 s1 σ1 σ' d _ G Rm S1 R1 hf fun v P2 W2 F2 own2 s2 S2 T2 R2 => hQ v P2 W2 F2 own2 s2 S2 (T1.trans T2) R2
end
section
noncomputable def updV (vm : Str → Option Value) (x : Str) (v : Value) : Str → Option Value := fun y => if y = x then some v else vm y
noncomputable def updO (own : Nat → Addr) (i : Nat) (b : Addr) : Nat → Addr := fun j => if j = i then b else own j
theorem store_name {x : Str} {i : Nat} {v : Value} {sl : Slot} {b : Addr} {Q : Unit → Shared → Prop} (G : EnvG sc env) (S : St C P W s) (R : RelEnv C vars env σ P W F vm own) (hi : vars[i]? = some x)
   (hx : sc.names.lookup x = some .local ∨ (sc.names.lookup x = some .cell ∧ env.func.isSome = true))
   (hsl : ∀ W', (∀ a, a ≠ env.locals → (∀ y c, env.cells.lookup y = some c → a ≠ c) → W' a = W a) → SlotR C P W' F sl (some v) b)
   (hb : sl.own = true → b ≠ env.locals ∧ (∀ y c, env.cells.lookup y = some c → b ≠ c) ∧ ∀ j, j ≠ i → (σ.getD j .non).own = true → own j ≠ b)
   (h : ∀ W' s', St C P W' s' → (∀ a, ¬ F a → W' a = W a) → RelEnv C vars env (σ.set i sl) P W' F (updV vm x v) (updO own i b) → Q () s') :
   wpAny C.M A (storeName env x v) Q NoE s := by
 have il : i < σ.length := by rw [R.len]; exact idx_lt hi
 have rel : ∀ W', (∀ a, a ≠ env.locals → (∀ y c, env.cells.lookup y = some c → a ≠ c) → W' a = W a) → Vars env W' F (updV vm x v) → RelEnv C vars env (σ.set i sl) P W' F (updV vm x v) (updO own i b) := fun W' hW V => by
   refine ⟨V, R.nd, by rw [List.length_set]; exact R.len, fun j y hj => ?_, fun j hj => ?_, fun j j' hne hj hj' => ?_⟩
   · by_cases hji : j = i
     · subst hji
       obtain rfl : x = y := Option.some.inj (hi.symm.trans hj)
       rw [getD_set_self il]
       have e1 : updV vm x v x = some v := if_pos rfl
       have e2 : updO own j b j = b := if_pos rfl
       rw [e1, e2]
       exact hsl W' hW
     · rw [getD_set_ne hji]
       haveI hy : y ≠ x := fun e => hji (idx_inj R.nd hj (e ▸ hi))
       haveI e1 : updV vm x v y = vm y := if_neg hy
       haveI e2 : updO own i b j = own j := if_neg hji
       rw [e1, e2]
       have := R.sl j y hj
       cases hs : σ.getD j .non with
       | non => trivial
       | val d => rw [hs] at this; exact this
       | _ =>
         refine Xa (R.apL j (by rw [hs]; rfl)) fun aL aC => ?_
         rw [hs] at this; refine Xeeaaaa this fun v' o k1 k2 k3 k4 k6 => ?_; exact Ieeaaaa v' o k1 k2 ((hW _ aL aC).trans k3) k4 k6
   · by_cases hji : j = i
     · subst hji
       rw [getD_set_self il] at hj
       have e2 : updO own j b j = b := if_pos rfl
       rw [e2]; exact ⟨(hb hj).1, (hb hj).2.1⟩
     · rw [getD_set_ne hji] at hj
       have e2 : updO own i b j = own j := if_neg hji
       rw [e2]; exact R.apL j hj
   · by_cases hji : j = i
     · subst hji
       have hji' : j' ≠ j := Ne.symm hne
       rw [getD_set_self il] at hj
       rw [getD_set_ne hji'] at hj'
       have e2 : updO own j b j = b := if_pos rfl
       have e3 : updO own j b j' = own j' := if_neg hji'
       rw [e2, e3]; exact Ne.symm ((hb hj).2.2 j' hji' hj')
     · by_cases hji' : j' = i
       · subst hji'
         rw [getD_set_ne hji] at hj
         rw [getD_set_self il] at hj'
         haveI e2 : updO own j' b j' = b := if_pos rfl
         haveI e3 : updO own j' b j = own j := if_neg hji
         rw [e2, e3]; exact (hb hj').2.2 j hji hj
       · rw [getD_set_ne hji] at hj
         rw [getD_set_ne hji'] at hj'
         have e2 : updO own i b j' = own j' := if_neg hji'
         have e3 : updO own i b j = own j := if_neg hji
         rw [e2, e3]; exact R.apO j j' hne hj hj'
 rcases hx with hx | ⟨hx, hf⟩ <;> rw [← G.kindOf] at hx
 · refine Xeeeaaa R.vs.loc fun o es ep h1 h2 h3 h4 => ?_
   refine wpAny_storeName_local (m := fun y => nsFind es y) hx ⟨o, es, ep, (S.w _ _ h1).1, h2, h3, fun _ => rfl⟩ (fun h' hn hs => ?_) (by rw [G.kind]; rfl)
   refine Xeeeaaa hn fun o' es' ep' g1 g2 g3 g4 => ?_
   haveI hW : ∀ a, a ≠ env.locals → (W.upd env.locals o') a = W a := fun a ha => Mp.upd_ne _ _ ha
   refine h (W.upd env.locals o') _ (S.setW (tk := s.toks + 1) h1 hs g1) (fun a ha => hW a (by rintro rfl; exact ha R.vs.locF)) (rel _ (fun a ha _ => hW a ha) ?_)
   refine ⟨⟨o', es', ep', Mp.upd_self .., g2, g3, fun y hy => ?_⟩, R.vs.locF, fun y c hc => ?_, R.vs.celF, R.vs.celK, R.vs.celE, R.vs.celD⟩
   · rw [g4]
     unfold updV
     dsimp only
     by_cases hyx : y = x
     · rw [if_pos hyx, if_pos hyx]
     · rw [if_neg hyx, if_neg hyx]; exact h4 y hy
   · refine Xea (R.vs.cel y c hc) fun oc k1 k2 => ?_
     refine Iea oc ((hW c (R.vs.locals_ne_cell hc)).trans k1) ?_
     rw [k2]
     by_cases hyx : y = x
     · subst hyx
       exact absurd hx (R.vs.celK _ _ hc)
     · unfold updV; rw [if_neg hyx]
 · refine Xe (R.vs.celE x (.inl hx)) fun c hc => ?_
   refine Xea (R.vs.cel x c hc) fun o h1 h2 => ?_
   refine wpAny_storeName_cell G.kind hx hc ⟨o, (S.w _ _ h1).1, h2⟩ (fun h' hn hs => ?_)
   refine Xea hn fun o' g1 g2 => ?_
   have hW : ∀ a, a ≠ c → (W.upd c o') a = W a := fun a ha => Mp.upd_ne _ _ ha
   refine h (W.upd c o') _ (S.setW (tk := s.toks) h1 hs g1) (fun a ha => hW a (by rintro rfl; exact ha (R.vs.celF hf _ _ hc))) (rel _ (fun a _ ha => hW a (ha x c hc)) ?_)
   refine Xeeeaaa R.vs.loc fun oL es ep l1 l2 l3 l4 => ?_
   refine ⟨⟨oL, es, ep, (hW _ (Ne.symm (R.vs.locals_ne_cell hc))).trans l1, l2, l3, fun y hy => ?_⟩, R.vs.locF, fun y c' hc' => ?_, R.vs.celF, R.vs.celK, R.vs.celE, R.vs.celD⟩
   · have hyx : y ≠ x := by rintro rfl; rw [hx] at hy; cases hy
     unfold updV; rw [if_neg hyx]; exact l4 y hy
   · by_cases hyx : y = x
     · subst hyx
       rw [hc] at hc'; cases hc'
       exact Iea o' (Mp.upd_self ..) (by unfold updV; rw [if_pos rfl]; exact g2)
     · refine Xea (R.vs.cel y c' hc') fun oc k1 k2 => ?_
       have hne : c' ≠ c := by rintro rfl; exact hyx (R.vs.celD y x c' hc' hc)
       exact Iea oc ((hW c' hne).trans k1) (by unfold updV; rw [if_neg hyx]; exact k2)
end
section
noncomputable def fRet (f : FnD) (σ : LS) : Option (Fl × LS) := (f σ).map fun p => (.ret p.1, p.2)
theorem SOK_ret {e : Expr} {pos : Pos} {f : FnD} (h : EOK C k sc vars e f) : SOK C k sc vars (.Return (some e) pos) (fRet f) := by
 constructor
 intro env A P W F vm own s σ σ' d Q G _ Rm S R hf hQ
 unfold fRet at hf
 refine ms2 hf fun a σ1 e1 hf => ?_
 nomatch hf, hQ
 exact wpAny_Return_some (h.go env A P W F vm own s σ _ a _ G Rm S R e1 fun v P' W' F' own' s' S' T' R' r' => hQ _ P' W' F' vm own' s' S' T' R' ⟨v, rfl, r'⟩)
noncomputable def fBNil (σ : LS) : Option (Fl × LS) := some (.next, σ)
noncomputable def fSeq (f g : FnF) (σ : LS) : Option (Fl × LS) := (f σ).bind fun p => match p.1 with
 | .next => g p.2
 | fl => some (fl, p.2)
theorem bnl : BOK C k sc vars [] fBNil := by
 constructor
 intro env A P W F vm own s σ σ' d Q G _ Rm S R hf hQ
 nomatch hf, hQ
 exact wpAny_execs_nil (hQ .next P W F vm own s S (.refl ..) R rfl)
theorem bcs {st : Stmt} {b : List Stmt} {f g : FnF} (h : SOK C k sc vars st f) (hb : BOK C k sc vars b g) : BOK C k sc vars (st :: b) (fSeq f g) := by
 constructor
 intro env A P W F vm own s σ σ' d Q G fu Rm S R hf hQ
 unfold fSeq at hf
 refine bs2 hf fun a σ1 e1 hf => ?_
 refine wpAny_execs_cons (h.go env A P W F vm own s σ σ1 a _ G fu Rm S R e1 fun fl P1 W1 F1 vm1 own1 s1 S1 T1 R1 r1 => ?_)
 cases a with
 | next => rw [show fl = _ from r1]; exact hb.go env A P1 W1 F1 vm1 own1 s1 σ1 σ' d _ G fu Rm S1 R1 hf fun fl P2 W2 F2 vm2 own2 s2 S2 T2 R2 r2 => hQ fl P2 W2 F2 vm2 own2 s2 S2 (T1.trans T2) R2 r2
 | brk => cases hf; rw [show fl = _ from r1]; exact hQ _ P1 W1 F1 vm1 own1 s1 S1 T1 R1 rfl
 | cont => cases hf; rw [show fl = _ from r1]; exact hQ _ P1 W1 F1 vm1 own1 s1 S1 T1 R1 rfl
 | ret d => cases hf; refine Xea r1 fun v q1 r => ?_; subst q1; exact hQ _ P1 W1 F1 vm1 own1 s1 S1 T1 R1 ⟨v, rfl, r⟩
theorem SOK_if {t : Expr} {b o : List Stmt} {pos : Pos} {ft : FnB} {f g : FnF} (ht : TOK C k sc vars t ft) (hb : BOK C k sc vars b f) (ho : BOK C k sc vars o g) :
   SOK C k sc vars (.If t b o pos) (fIf ft f g) := by
 constructor
 intro env A P W F vm own s σ σ' d Q G fu Rm S R hf hQ
 unfold fIf at hf
 refine bs2 hf fun a σ1 e1 hf => ?_
 refine wpAny_If (ht.go env A P W F vm own s σ σ1 a _ G Rm S R e1 fun P1 W1 F1 own1 s1 S1 T1 R1 => ?_)
 cases a with
 | true => exact hb.go env A P1 W1 F1 vm own1 s1 σ1 σ' d _ G fu Rm S1 R1 hf fun v P2 W2 F2 vm2 own2 s2 S2 T2 R2 => hQ v P2 W2 F2 vm2 own2 s2 S2 (T1.trans T2) R2
 | false => exact ho.go env A P1 W1 F1 vm own1 s1 σ1 σ' d _ G fu Rm S1 R1 hf fun v P2 W2 F2 vm2 own2 s2 S2 T2 R2 => hQ v P2 W2 F2 vm2 own2 s2 S2 (T1.trans T2) R2
noncomputable def Sto (sc : Scope) (x : Str) : Prop := sc.names.lookup x = some .local ∨ sc.names.lookup x = some .cell
theorem Sto.at {x : Str} (h : Sto sc x) (hf : env.func.isSome = true) : sc.names.lookup x = some .local ∨ (sc.names.lookup x = some .cell ∧ env.func.isSome = true) := h.imp id fun e => ⟨e, hf⟩
theorem set_val {x : Str} {i : Nat} {v : Value} {d : D} {Q : Unit → Shared → Prop} (G : EnvG sc env) (S : St C P W s) (R : RelEnv C vars env σ P W F vm own) (hi : vars[i]? = some x)
   (hx : sc.names.lookup x = some .local ∨ (sc.names.lookup x = some .cell ∧ env.func.isSome = true)) (r : Rep C P d v)
   (h : ∀ W' vm' own' s', St C P W' s' → Step P W F P W' F → RelEnv C vars env (σ.set i (.val d)) P W' F vm' own' → Q () s') : wpAny C.M A (storeName env x v) Q NoE s :=
 store_name (b := 0) (sl := .val d) G S R hi hx (fun _ _ => ⟨v, rfl, r⟩) (fun e => by cases e) fun W' s' S' hW R' => h W' _ _ s' S' ⟨.refl _, fun a o e n => (hW a n).trans e, fun _ q => .inl q⟩ R'
noncomputable def fAsg (i : Nat) (f : FnD) (σ : LS) : Option (Fl × LS) := (f σ).map fun p => (.next, p.2.set i (.val p.1))
theorem SOK_asg {x : Str} {px pos : Pos} {e : Expr} {i : Nat} {f : FnD} (hi : vars[i]? = some x) (hx : Sto sc x) (h : EOK C k sc vars e f)
   (hs : ∀ env, EnvG sc env → swapsWith e (some (.Name x px)) pos.line env = pure false) : SOK C k sc vars (.Assign [.Name x px] e pos) (fAsg i f) := by
 constructor
 intro env A P W F vm own s σ σ' d Q G fu Rm S R hf hQ
 unfold fAsg at hf
 refine ms2 hf fun a σ1 e1 hf => ?_
 nomatch hf, hQ
 refine wpAny_Assign_Name (h.go env A P W F vm own s σ σ1 a _ G Rm S R e1 fun v P1 W1 F1 own1 s1 S1 T1 R1 r1 => ?_) (hs env G)
 exact set_val G S1 R1 hi (hx.at fu) r1 fun W2 vm2 own2 s2 S2 T2 R2 => hQ .next _ W2 _ vm2 own2 s2 S2 (T1.trans T2) R2 rfl
theorem set_new {x : Str} {i : Nat} {v : Value} {o : Obj} {sl : Slot} {b : Addr} {Q : Unit → Shared → Prop} (G : EnvG sc env) (S : St C P (W.upd b o) s) (hb : W b = none) (R : RelEnv C vars env σ P W F vm own) (hi : vars[i]? = some x)
   (hx : sc.names.lookup x = some .local ∨ (sc.names.lookup x = some .cell ∧ env.func.isSome = true)) (hsl : sl.own = true) (hio : sl.io = false) (hv : ValR C P b sl v) (ho : ObjR C P sl o)
   (h : ∀ W' F' vm' own' s', St C P W' s' → Step P W F P W' F' → RelEnv C vars env (σ.set i sl) P W' F' vm' own' → Q () s') : wpAny C.M A (storeName env x v) Q NoE s := by
 have neW : ∀ {a : Addr} {oa : Obj}, W a = some oa → a ≠ b := fun {a oa} e => by rintro rfl; rw [hb] at e; cases e
 have keepW : ∀ a oa, W a = some oa → (W.upd b o) a = some oa := fun a oa e => by rw [Mp.upd_ne _ _ (neW e)]; exact e
 haveI R1 : RelEnv C vars env σ P (W.upd b o) (fun a => F a ∨ a = b) vm own := R.frameW (fun a oa _ e => keepW a oa e) (fun x c oa _ e => keepW c oa e) (fun a h => .inl h)
 have bL : b ≠ env.locals := by refine Xeeea R.vs.loc fun oL _ _ h1 _ => ?_; exact Ne.symm (neW h1)
 have bC : ∀ y c, env.cells.lookup y = some c → b ≠ c := fun y c hc => by refine Xea (R.vs.cel y c hc) fun oc h1 _ => ?_; exact Ne.symm (neW h1)
 refine store_name (b := b) (sl := sl) G S R1 hi hx (fun W' hW => ?_) (fun _ => ⟨bL, bC, fun j _ hj => ?_⟩) fun W' s' S' hW R' => h W' _ _ _ s' S' ⟨.refl _, fun a oa e n => ?_, fun a q => q.imp id fun (q : a = b) => by rw [q]; exact hb⟩ R'
 · have e : W' b = some o := (hW b bL bC).trans (Mp.upd_self ..)
   cases sl <;> first | (cases hsl; done) | exact Ieeaaaaa v o rfl hv e ho (.inr rfl) (fun q => by rw [hio] at q; cases q)
 · obtain ⟨x', hx'⟩ : ∃ x', vars[j]? = some x' := by
     cases q : vars[j]? with
     | some x' => exact ⟨x', rfl⟩
     | none =>
       haveI : σ.length ≤ j := by rw [R.len]; exact List.getElem?_eq_none_iff.mp q
       rw [List.getD, List.getElem?_eq_none this] at hj; cases hj
   refine Xeeaaa ((R.sl j x' hx').own_of hj) fun _ oj _ _ h3 _ => ?_
   exact neW h3
 · exact (hW a (fun q => q.elim n (neW e))).trans (keepW a oa e)
noncomputable def fNew (i : Nat) (f : FnL) (σ : LS) : Option (Fl × LS) := (f σ).bind fun p => if p.1.length ≤ bigN then some (.next, p.2.set i (.ownL false p.1)) else none
theorem SOK_new {x : Str} {px pos lp : Pos} {es : List Expr} {i : Nat} {f : FnL} (hi : vars[i]? = some x) (hx : Sto sc x) (h : LOK C k sc vars es f) :
   SOK C k sc vars (.Assign [.Name x px] (.List es lp) pos) (fNew i f) := by
 constructor
 intro env A P W F vm own s σ σ' d Q G fu Rm S R hf hQ
 unfold fNew at hf
 refine bs2 hf fun a σ1 e1 hf => ?_
 split at hf <;> cases hf
 rename_i hl
 refine wpAny_Assign_Name (wpAny_List (h.go env lp A P W F vm own s σ σ1 a _ G Rm S R e1 fun v P1 W1 F1 own1 s1 S1 T1 R1 r1 => ⟨by rw [← r1.length, sizeLine_eq]; unfold bigN at hl; dsimp only at hl; lia, ?_⟩)) rfl
 refine set_new (sl := .ownL false a) (b := s1.heap.objs.size) G (S1.newW (tk := s1.toks) rfl) S1.freshW R1 hi (hx.at fu) rfl rfl rfl ⟨v, ⟨0, rfl⟩, r1⟩ fun W2 F2 vm2 own2 s2 S2 T2 R2 => hQ .next _ W2 _ vm2 own2 s2 S2 (T1.trans T2) R2 rfl
noncomputable def fExp (f : FnD) (σ : LS) : Option (Fl × LS) := (f σ).map fun p => (.next, p.2)
theorem SOK_exp {e : Expr} {pos : Pos} {f : FnD} (h : EOK C k sc vars e f) (hs : ∀ env, swapsWith e none pos.line env = pure false) : SOK C k sc vars (.Expr e pos) (fExp f) := by
 constructor
 intro env A P W F vm own s σ σ' d Q G fu Rm S R hf hQ
 unfold fExp at hf
 refine ms2 hf fun a σ1 e1 hf => ?_
 nomatch hf, hQ
 exact wpAny_Expr_any (h.go env A P W F vm own s σ _ a _ G Rm S R e1 fun v P' W' F' own' s' S' T' R' r' => hQ _ P' W' F' vm own' s' S' T' R' rfl) (by unfold interactive; rw [G.kind]; rfl) (hs env)
noncomputable def augD : Operator → D → D → Option D
 | .Add, a, b => (intD a).bind fun a => (intD b).map fun b => .int (a + b)
 | .Sub, a, b => (intD a).bind fun a => (intD b).map fun b => .int (a - b)
 | _, _, _ => none
inductive AugI : Operator → D → D → D → Prop
 | a (a b : Int) : AugI .Add (.int a) (.int b) (.int (a + b))
 | s (a b : Int) : AugI .Sub (.int a) (.int b) (.int (a - b))
theorem aug_inv {op : Operator} {a b d : D} (h : augD op a b = some d) : AugI op a b d := by
 cases op with
 | Add => refine bs1 h fun x e h2 => ?_; refine ms1 h2 fun y e2 h3 => ?_; obtain rfl := intD_eq e; obtain rfl := intD_eq e2; subst h3; exact .a x y
 | Sub => refine bs1 h fun x e h2 => ?_; refine ms1 h2 fun y e2 h3 => ?_; obtain rfl := intD_eq e; obtain rfl := intD_eq e2; subst h3; exact .s x y
 | _ => cases h
noncomputable def fAug (i : Nat) (op : Operator) (f : FnD) (σ : LS) : Option (Fl × LS) := match σ.getD i .non with
 | .val a => (f σ).bind fun p => (augD op a p.1).map fun d => (.next, p.2.set i (.val d))
 | _ => none
theorem SOK_aug {x : Str} {px pos : Pos} {op : Operator} {e : Expr} {i : Nat} {f : FnD} (hi : vars[i]? = some x) (hx : Sto sc x) (hn : (x == ("__classdict__" : Str)) = false) (h : EOK C k sc vars e f) :
   SOK C k sc vars (.AugAssign (.Name x px) op e pos) (fAug i op f) := by
 constructor
 intro env A P W F vm own s σ σ' d Q G fu Rm S R hf hQ
 unfold fAug at hf
 haveI hs := R.sl i x hi
 cases hσ : σ.getD i .non with
 | val a =>
   rw [hσ] at hf hs
   refine bs2 hf fun b σ1 e1 hf => ?_
   refine ms1 hf fun dd e2 hf => ?_
   nomatch hf, hQ
   obtain ⟨v, h1, h2⟩ := hs
   refine wpAny_AugAssign_Name (load_name G R.vs S (hx.elim .inl fun e => .inr (.inl e)) h1 (h.go env A P W F vm own s σ σ1 b _ G Rm S R e1 fun u P1 W1 F1 own1 s1 S1 T1 R1 r1 => ?_) hn)
   haveI fin : ∀ (r : Value) (s2 : Shared), St C P1 W1 s2 → Rep C P1 dd r → wpAny C.M A (storeName env x r) (fun _ => Q .next) NoE s2 := fun r s2 S2 rr =>
     set_val G S2 R1 hi (hx.at fu) rr fun W2 vm2 own2 s3 S3 T3 R3 => hQ .next _ W2 _ vm2 own2 s3 S3 (T1.trans T3) R3 rfl
   replace e2 : augD op a b = some dd := e2
   cases aug_inv e2
   · obtain ⟨t, rfl⟩ := h2; obtain ⟨t', rfl⟩ := r1; exact PySem.P.iadd_int (fin _ _ (S1.toks _) ⟨_, rfl⟩)
   · obtain ⟨t, rfl⟩ := h2; obtain ⟨t', rfl⟩ := r1; exact PySem.P.isub_int (fin _ _ (S1.toks _) ⟨_, rfl⟩)
 | _ => rw [hσ] at hf; cases hf
end
section
noncomputable def fWhile (t : FnB) (b : FnF) : Nat → FnF
 | 0, _ => none
 | n + 1, σ => (t σ).bind fun p => if p.1 = true then (b p.2).bind fun q => match q.1 with
     | .next => fWhile t b n q.2
     | .cont => fWhile t b n q.2
     | .brk => some (.next, q.2)
     | .ret d => some (.ret d, q.2)
   else some (.next, p.2)
theorem SOK_while {t : Expr} {b : List Stmt} {pos : Pos} {ft : FnB} {f : FnF} (ht : TOK C k sc vars t ft) (hb : BOK C k sc vars b f) (N : Nat) :
   SOK C k sc vars (.While t b [] pos) (fWhile ft f N) := by
 constructor
 intro env A P W F vm own s σ σ' d Q G fu Rm S R hf hQ
 refine wpAny_While ?_
 refine codeAny_mono (R := fun r s' => match r with | .ok fl => Q fl s' | .error _ => False) ?_ fun r s' h => by
   cases r with
   | ok fl => exact h
   | error e => exact h.elim
 refine codeAny_whileLoop (fun n s' => ∃ P1 W1 F1 vm1 own1 σ1, St C P1 W1 s' ∧ Step P W F P1 W1 F1 ∧ RelEnv C vars env σ1 P1 W1 F1 vm1 own1 ∧ fWhile ft f n σ1 = some (d, σ')) (fun n s' hI => ?_) N ⟨P, W, F, vm, own, σ, S, .refl .., R, hf⟩
 refine Xeeeeeeaaa hI fun P1 W1 F1 vm1 own1 σ1 S1 T1 R1 h1 => ?_
 cases n with
 | zero => cases h1
 | succ n =>
   unfold fWhile at h1
   refine bs2 h1 fun c σ2 e1 h2 => ?_
   refine wpAny_mono (ht.go env A P1 W1 F1 vm1 own1 s' σ1 σ2 c _ G Rm S1 R1 e1 fun P2 W2 F2 own2 s2 S2 T2 R2 => ?_) (fun _ _ h => h) (fun _ _ h => h.elim)
   cases c with
   | false =>
     cases h2
     exact wpAny_execs_nil (hQ .next P2 W2 F2 vm1 own2 s2 S2 (T1.trans T2) R2 rfl)
   | true =>
     refine bs2 h2 fun fl σ3 e2 h3 => ?_
     simp only [if_true]
     refine wpAny_mono (hb.go env A P2 W2 F2 vm1 own2 s2 σ2 σ3 fl _ G fu Rm S2 R2 e2 fun fl' P3 W3 F3 vm3 own3 s3 S3 T3 R3 r3 => ?_) (fun _ _ h => h) (fun _ _ h => h.elim)
     cases fl with
     | next => rw [show fl' = _ from r3]; exact Ieaeeeeeeaaa n (Nat.lt_succ_self n) P3 W3 F3 vm3 own3 σ3 S3 (T1.trans (T2.trans T3)) R3 h3
     | cont => rw [show fl' = _ from r3]; exact Ieaeeeeeeaaa n (Nat.lt_succ_self n) P3 W3 F3 vm3 own3 σ3 S3 (T1.trans (T2.trans T3)) R3 h3
     | brk => cases h3; rw [show fl' = _ from r3]; exact hQ .next P3 W3 F3 vm3 own3 s3 S3 (T1.trans (T2.trans T3)) R3 rfl
     | ret d => cases h3; refine Xea r3 fun v q1 r => ?_; subst q1; exact hQ (.ret v) P3 W3 F3 vm3 own3 s3 S3 (T1.trans (T2.trans T3)) R3 ⟨v, rfl, r⟩
structure GOK (C : Cx) (fn : Bool) (k : Nat) (sc : Scope) (vars : List Str) (t : Expr) (g : D → LS → Option (LS)) : Prop where
 go : ∀ (env : Env) (A : Around) (P W : Mp) (F : Addr → Prop) (vm : Str → Option Value) (own : Nat → Addr) (s : Shared) (σ σ' : LS) (d : D) (v : Value) (Q : Unit → Shared → Prop),
   EnvG sc env → (fn = true → env.func.isSome = true) → Room k A → St C P W s → RelEnv C vars env σ P W F vm own → Rep C P d v → g d σ = some σ' →
   (∀ W' vm' own' s', St C P W' s' → Step P W F P W' F → RelEnv C vars env σ' P W' F vm' own' → Q () s') → wpAny C.M A (assign t env v) Q NoE s
noncomputable def Tgt (fn : Bool) (sc : Scope) (x : Str) : Prop := sc.names.lookup x = some .local ∨ (sc.names.lookup x = some .cell ∧ fn = true)
noncomputable def gName (i : Nat) (d : D) (σ : LS) : Option (LS) := some (σ.set i (.val d))
theorem GOK_name {fn : Bool} {x : Str} {px : Pos} {i : Nat} (hi : vars[i]? = some x) (hx : Tgt fn sc x) : GOK C fn k sc vars (.Name x px) (gName i) := by
 constructor
 intro env A P W F vm own s σ σ' d v Q G fu Rm S R r hf hQ
 nomatch hf, hQ
 exact PySem.wpAny_assign_Name (set_val G S R hi (hx.imp id fun e => ⟨e.1, fu e.2⟩) r hQ)
noncomputable def gNames : List Nat → List D → LS → Option (LS)
 | [], ds, σ => match ds with
   | [] => some σ
   | _ :: _ => none
 | i :: is, ds, σ => match ds with
   | [] => none
   | d :: ds => gNames is ds (σ.set i (.val d))
inductive NamesAt (fn : Bool) (sc : Scope) (vars : List Str) : List Expr → List Nat → Prop
 | nil : NamesAt fn sc vars [] []
 | cons {x : Str} {px : Pos} {i : Nat} {es : List Expr} {is : List Nat} : vars[i]? = some x → Tgt fn sc x → NamesAt fn sc vars es is → NamesAt fn sc vars (.Name x px :: es) (i :: is)
theorem NamesAt.each {fn : Bool} {es : List Expr} {is : List Nat} (h : NamesAt fn sc vars es is) (env : Env) : (assignEach es env).length = is.length ∧ (assignEach es env).findIdx? (·.1) = none := by
 induction h with
 | nil => exact ⟨rfl, rfl⟩
 | cons _ _ _ ih =>
   show ((false, _) :: assignEach _ env).length = _ ∧ ((false, _) :: assignEach _ env).findIdx? _ = none
   rw [List.length_cons, List.findIdx?_cons, ih.1, ih.2]; exact ⟨rfl, rfl⟩
theorem names_in {fn : Bool} {es : List Expr} {is : List Nat} (h : NamesAt fn sc vars es is) : ∀ (env : Env) (A : Around) (P W : Mp) (F : Addr → Prop) (vm : Str → Option Value) (own : Nat → Addr) (s : Shared) (σ σ' : LS) (ds : List D) (vs : List Value) (Q : Unit → Shared → Prop),
   EnvG sc env → (fn = true → env.func.isSome = true) → Room k A → St C P W s → RelEnv C vars env σ P W F vm own → Reps C P ds vs → gNames is ds σ = some σ' →
   (∀ W' vm' own' s', St C P W' s' → Step P W F P W' F → RelEnv C vars env σ' P W' F vm' own' → Q () s') → wpAny C.M A (assignInOrder ((assignEach es env).map (·.2)) vs) Q NoE s := by
 induction h with
 | nil =>
   intro env A P W F vm own s σ σ' ds vs Q G fu Rm S R r hf hQ
   cases ds with
   | nil => cases hf; rw [show vs = _ from r]; exact wpAny_pure (hQ W vm own s S (.refl ..) R)
   | cons => cases hf
 | cons hi hx _ ih =>
   intro env A P W F vm own s σ σ' ds vs Q G fu Rm S R r hf hQ
   cases ds with
   | nil => cases hf
   | cons d ds =>
     refine Xeeaa r fun v vs' q2 r1 r2 => ?_; subst q2
     show wpAny C.M A (holding vs' (assign (.Name _ _) env v) >>= fun _ => assignInOrder ((assignEach _ env).map (·.2)) vs') Q NoE s
     refine wpAny_bind (wpAny_holding (PySem.wpAny_assign_Name (set_val G S R hi (hx.imp id fun e => ⟨e.1, fu e.2⟩) r1 fun W1 vm1 own1 s1 S1 T1 R1 => ?_)))
     exact ih env A P W1 F vm1 own1 s1 _ σ' ds vs' Q G fu Rm S1 R1 r2 hf fun W2 vm2 own2 s2 S2 T2 R2 => hQ W2 vm2 own2 s2 S2 (T1.trans T2) R2
noncomputable def gTup (is : List Nat) (d : D) (σ : LS) : Option (LS) := match d with
 | .tup ds => if ds.length = is.length then gNames is ds σ else none
 | _ => none
theorem GOK_tup {fn : Bool} {es : List Expr} {kk : Nat} {pos : Pos} {is : List Nat} (h : NamesAt fn sc vars es is) : GOK C fn k sc vars (.Tuple es kk pos) (gTup is) := by
 constructor
 intro env A P W F vm own s σ σ' d v Q G fu Rm S R r hf hQ
 unfold gTup at hf
 cases d with
 | tup ds =>
   dsimp only at hf
   split at hf
   · rename_i hl
     refine Xeeeaaa r fun a o vs q3 p1 q1 r1 => ?_; subst q3
     refine assign_Tuple_tuple Rm.1 (q1.tup (S.p _ _ p1)) (by rw [(h.each env).1, List.size_toArray, ← r1.length, hl]) (h.each env).2 fun h' hk => ?_
     exact names_in h env A P W F vm own _ σ σ' ds vs Q G fu Rm (S.ext (tk := s.toks) fun b ob e => hk b ob (Nat.ne_of_lt (Heap.lt_size e)) e) R r1 hf hQ
   · cases hf
 | _ => cases hf
structure ItS (C : Cx) (tgt : Expr) (it : Value) (ia : Addr → Prop) (J : List D → Mp → Mp → Prop) : Prop where
 keep : ∀ ds P W P' W', J ds P W → P.Le P' → (∀ a o, ia a → W a = some o → W' a = some o) → J ds P' W'
 has : ∀ ds P W a, J ds P W → ia a → ∃ o, W a = some o
 self : ∀ (A : Around) (P W : Mp) (s : Shared) (ds : List D) (E : Value → Shared → Prop) (Q : Value → Shared → Prop), J ds P W → St C P W s → Q it s → wpAny C.M A (pyIter it) Q E s
 nil : ∀ (A : Around) (P W : Mp) (s : Shared) (Q : Option Value → Shared → Prop), A.handled = none → J [] P W → St C P W s → (∀ W' s', St C P W' s' → (∀ a, ¬ ia a → W' a = W a) → Q none s') → wpAny C.M A (pyNext it) Q NoE s
 cons : ∀ (A : Around) (P W : Mp) (s : Shared) (d : D) (ds : List D) (Q : Value → Shared → Prop), A.handled = none → J (d :: ds) P W → St C P W s →
   (∀ v P' W' s', P.Le P' → St C P' W' s' → (∀ a, ¬ ia a → W' a = W a) → Rep C P' d v → J ds P' W' → Q v s') →
   wpAny C.M A (pyNext it) (fun r s1 => ∃ v, r = some v ∧ wpAny C.M A (letOwnedTupleGo tgt it v) (fun _ s2 => Q v s2) NoE s1) NoE s
structure IOK (C : Cx) (k : Nat) (sc : Scope) (vars : List Str) (tgt e : Expr) (f : FnL) : Prop where
 go : ∀ (env : Env) (A : Around) (P W : Mp) (F : Addr → Prop) (vm : Str → Option Value) (own : Nat → Addr) (s : Shared) (σ σ' : LS) (ds : List D) (Q : Value → Shared → Prop),
   EnvG sc env → Room k A → St C P W s → RelEnv C vars env σ P W F vm own → f σ = some (ds, σ') →
   (∀ it ia J P' W' F' own' s', St C P' W' s' → Step P W F P' W' F' → RelEnv C vars env σ' P' W' F' vm own' → ItS C tgt it ia J → J ds P' W' → (∀ a, ia a → ¬ F' a ∧ (¬ F a → W a = none)) → (∀ a, ia a → ∀ y c, env.cells.lookup y = some c → a ≠ c) → Q it s') →
   wpAny C.M A (eval e env) (fun x s1 => wpAny C.M A (pyIter x) Q NoE s1) NoE s
noncomputable def fFor (g : D → LS → Option (LS)) (b : FnF) : List D → FnF
 | [], σ => some (.next, σ)
 | d :: ds, σ => (g d σ).bind fun σ1 => (b σ1).bind fun q => match q.1 with
     | .next => fFor g b ds q.2
     | .cont => fFor g b ds q.2
     | .brk => some (.next, q.2)
     | .ret d => some (.ret d, q.2)
noncomputable def fForS (fi : FnL) (g : D → LS → Option (LS)) (b : FnF) (σ : LS) : Option (Fl × LS) := (fi σ).bind fun p => fFor g b p.1 p.2
theorem Step.iter {P2 W2 W3 : Mp} {F2 ia : Addr → Prop} (T : Step P W F P2 W2 F2) (hW : ∀ a, ¬ ia a → W3 a = W2 a) (hia : ∀ a, ia a → ¬ F a → W a = none) : Step P W F P2 W3 F2 :=
 ⟨T.p, fun a o e n => (hW a fun h => by rw [hia a h n] at e; cases e).trans (T.w a o e n), T.f⟩
theorem RelEnv.iter {W3 : Mp} {ia : Addr → Prop} (R : RelEnv C vars env σ P W F vm own) (hW : ∀ a, ¬ ia a → W3 a = W a) (hF : ∀ a, ia a → ¬ F a) (hic : ∀ a, ia a → ∀ y c, env.cells.lookup y = some c → a ≠ c) : RelEnv C vars env σ P W3 F vm own :=
 R.frameW (fun a _ hFa ea => (hW a fun hi => hF a hi hFa).trans ea) (fun x c _ ex ec => (hW c fun hi => hic c hi x c ex rfl).trans ec) fun _ h => h
inductive ForI (C : Cx) (vars : List Str) (env : Env) (P W : Mp) (F : Addr → Prop) (ia : Addr → Prop) (J : List D → Mp → Mp → Prop) (go : List D → FnF) (r : Fl × LS) (n : Nat) (s' : Shared) : Prop
 | mk (P2 : _) (W2 : _) (F2 : _) (vm2 : _) (own2 : _) (σ2 : _) (ds2 : _) (h0 : n = ds2.length) (h1 : St C P2 W2 s') (h2 : Step P W F P2 W2 F2) (h3 : RelEnv C vars env σ2 P2 W2 F2 vm2 own2) (h4 : J ds2 P2 W2) (h5 : (∀ a, ia a → ¬ F2 a)) (h6 : go ds2 σ2 = some r) : ForI C vars env P W F ia J go r n s'
noncomputable def ForA (Q : Flow → Shared → Prop) (I : Nat → Shared → Prop) (n : Nat) (f : Flow) (s : Shared) : Prop := match f with
 | .next | .cont => ∃ m, m < n ∧ I m s
 | .brk => Q .next s
 | .ret v => Q (.ret v) s
theorem SOK_for {t e : Expr} {b : List Stmt} {pos : Pos} {fi : FnL} {g : D → LS → Option (LS)} {f : FnF} (hi : IOK C k sc vars t e fi) (hg : GOK C true k sc vars t g) (hb : BOK C k sc vars b f)
   (hs : ∀ env x, foldedSetIterable e env x = pure x) : SOK C k sc vars (.For t e b [] pos) (fForS fi g f) := by
 constructor
 intro env A P W F vm own s σ σ' d Q G fu Rm S R hf hQ
 unfold fForS at hf
 refine bs2 hf fun ds σ1 e1 hf => ?_
 refine wpAny_For (hi.go env A P W F vm own s σ σ1 ds _ G Rm S R e1 fun it ia J P1 W1 F1 own1 s1 S1 T1 R1 I j1 hia hic => ?_) (hs env)
 refine codeAny_mono (R := fun r s' => match r with | .ok fl => Q fl s' | .error _ => False) ?_ fun r s' h => by
   cases r with
   | ok fl => exact h
   | error e => exact h.elim
 refine codeAny_forLoop_any (ForI C vars env P W F ia J (fFor g f) (d, σ')) (fun n s' hI => ?_) ds.length ⟨P1, W1, F1, vm, own1, σ1, ds, rfl, S1, T1, R1, j1, fun a h => (hia a h).1, hf⟩
 obtain ⟨P2, W2, F2, vm2, own2, σ2, ds2, hn, S2, T2, R2, j2, hF2, h2⟩ := hI
 have hiW : ∀ a, ia a → ¬ F a → W a = none := fun a h => (hia a h).2
 cases ds2 with
 | nil =>
   cases h2
   refine wpAny_mono (I.nil A P2 W2 s' _ Rm.1 j2 S2 fun W3 s3 S3 hW => ?_) (fun _ _ h => h) (fun _ _ h => h.elim)
   exact wpAny_execs_nil (hQ .next P2 W3 F2 vm2 own2 s3 S3 (T2.iter hW hiW) (R2.iter hW hF2 hic) rfl)
 | cons d2 ds2 =>
   unfold fFor at h2
   refine bs1 h2 fun σ3 e3 h3 => ?_
   refine bs2 h3 fun fl σ4 e4 h4 => ?_
   refine wpAny_mono (I.cons A P2 W2 s' d2 ds2 (fun v s2 => wpAny C.M A (assign t env v) (fun _ s₂ => wpAny C.M A (execs b env) (ForA Q (ForI C vars env P W F ia J (fFor g f) (d, σ')) n) NoE s₂) NoE s2) Rm.1 j2 S2 fun v P3 W3 s3 hP S3 hW r3 j3 => ?_) (fun r s1 h => ?_) (fun _ _ h => h.elim)
   · haveI T3 : Step P W F P3 W3 F2 := (T2.trans (.le hP)).iter hW hiW
     haveI R3 := (R2.monoP hP).iter hW hF2 hic
     refine hg.go env A P3 W3 F2 vm2 own2 s3 σ2 σ3 d2 v _ G (fun _ => fu) Rm S3 R3 r3 e3 fun W4 vm4 own4 s4 S4 T4 R4 => ?_
     have j4 := I.keep _ _ _ _ _ j3 (.refl _) fun a o hi ea => T4.w a o ea (hF2 a hi)
     refine hb.go env A P3 W4 F2 vm4 own4 s4 σ3 σ4 fl _ G fu Rm S4 R4 e4 fun fl' P5 W5 F5 vm5 own5 s5 S5 T5 R5 r5 => ?_
     haveI j5 := I.keep _ _ _ _ _ j4 T5.p fun a o hi ea => T5.w a o ea (hF2 a hi)
     have T15 : Step P W F P5 W5 F5 := T3.trans (T4.trans T5)
     haveI hF5 : ∀ a, ia a → ¬ F5 a := fun a hi h => (T5.f a h).elim (hF2 a hi) fun h' => by
       refine Xe (I.has _ _ _ a j4 hi) fun o ho => ?_
       rw [ho] at h'; cases h'
     cases fl with
     | next => rw [show fl' = _ from r5]; exact ⟨ds2.length, by rw [hn, List.length_cons]; exact Nat.lt_succ_self _, P5, W5, F5, vm5, own5, σ4, ds2, rfl, S5, T15, R5, j5, hF5, h4⟩
     | cont => rw [show fl' = _ from r5]; exact ⟨ds2.length, by rw [hn, List.length_cons]; exact Nat.lt_succ_self _, P5, W5, F5, vm5, own5, σ4, ds2, rfl, S5, T15, R5, j5, hF5, h4⟩
     | brk => cases h4; rw [show fl' = _ from r5]; exact hQ .next P5 W5 F5 vm5 own5 s5 S5 T15 R5 rfl
     | ret d => cases h4; refine Xea r5 fun v q1 r => ?_; subst q1; exact hQ (.ret v) P5 W5 F5 vm5 own5 s5 S5 T15 R5 ⟨v, rfl, r⟩
   · obtain ⟨v, rfl, h⟩ := h
     refine wpAny_mono h (fun _ s2 h => wpAny_mono h (fun _ s3 h => wpAny_mono h (fun f s4 h => ?_) fun _ _ h => h.elim) fun _ _ h => h.elim) (fun _ _ h => h.elim)
     cases f <;> exact h
end
section
theorem St.endIt {a : Addr} {oa : Obj} {h' : Heap} {tk : Nat} (S : St C P W s) (ha : W a = some oa) (hs : Heap.ExtBut a s.heap h') : St C P (W.del a) { s with heap := h', toks := tk } :=
 ⟨S.gens, S.drawn, S.os, S.base, fun b ob e => hs b ob (by rintro rfl; rw [(S.w _ _ ha).2] at e; cases e) (S.p b ob e), fun b ob e => by
   by_cases hb : b = a
   · subst hb; rw [Mp.del_self] at e; cases e
   · rw [Mp.del_ne _ hb] at e; exact ⟨hs b ob hb (S.w b ob e).1, (S.w b ob e).2⟩⟩
noncomputable def LTgt : Expr → List D → Prop
 | .Name .., _ => True
 | .Tuple .., ds => ∀ d ∈ ds, ∃ xs, d = .tup xs
 | _, _ => False
inductive LJ (C : Cx) (tgt : Expr) (it : Addr) (ds : List D) (P W : Mp) : Prop
 | mk (oi : _) (l : _) (o : _) (vs : _) (i : _) (h0 : W it = some oi) (h1 : oi.cls = .type "list_iterator") (h2 : oi.data = .fields #[.ref l, .int (i : Nat) 0]) (h3 : P l = some o) (h4 : IsLst o vs) (h5 : Reps C P ds (vs.drop i)) (h6 : LTgt tgt ds) : LJ C tgt it ds P W
theorem reps_cons_drop {d : D} {ds : List D} {vs : List Value} {i : Nat} (h : Reps C P (d :: ds) (vs.drop i)) : ∃ v, vs.toArray[i]? = some v ∧ Rep C P d v ∧ Reps C P ds (vs.drop (i + 1)) := by
 refine Xeeaa h fun v r e1 e2 e3 => ?_
 have hi : i < vs.length := by
   rcases Nat.lt_or_ge i vs.length with h | h
   · exact h
   · rw [List.drop_of_length_le h] at e1; cases e1
 rw [List.drop_eq_getElem_cons hi] at e1
 injection e1 with e4 e5
 exact Ieaa v (by simp [hi, e4]) e2 (e5 ▸ e3)
theorem reps_nil_drop {vs : List Value} {i : Nat} (h : Reps C P [] (vs.drop i)) : vs.toArray[i]? = none := by
 have e : vs.drop i = [] := h
 simpa using e
theorem listIt {tgt : Expr} {it : Addr} : ItS C tgt (.ref it) (fun a => a = it) (LJ C tgt it) where
 keep := fun ds P W P' W' ⟨oi, l, o, vs, i, h1, h2, h3, h4, h5, h6, h7⟩ hP hW => ⟨oi, l, o, vs, i, hW _ _ rfl h1, h2, h3, hP _ _ h4, h5, Reps.mono hP _ h6, h7⟩
 has := fun ds P W a ⟨oi, _, _, _, _, h1, _, _, _, _, _, _⟩ h => ⟨oi, by rw [h]; exact h1⟩
 self := fun A P W s ds E Q ⟨oi, l, o, vs, i, h1, h2, h3, _, _, _, _⟩ S h => wpAny_pyIter_listiter ⟨oi, (S.w _ _ h1).1, h2, h3⟩ h
 nil := fun A P W s Q hh ⟨oi, l, o, vs, i, h1, h2, h3, h4, h5, h6, h7⟩ S hQ =>
   wpAny_pyNext_list_end hh ⟨oi, (S.w _ _ h1).1, h2, h3⟩ (h5.list (S.p _ _ h4)) (reps_nil_drop h6) fun h' hs => hQ _ _ (S.endIt (tk := s.toks) h1 hs) fun a ha => Mp.del_ne _ ha
 cons := fun A P W s d ds Q hh ⟨oi, l, o, vs, i, h1, h2, h3, h4, h5, h6, h7⟩ S hQ => by
   refine Xeaa (reps_cons_drop h6) fun v e1 e2 e3 => ?_
   refine wpAny_pyNext_list_item ⟨oi, (S.w _ _ h1).1, h2, h3⟩ (h5.list (S.p _ _ h4)) e1 fun h' hit hs => ⟨v, rfl, ?_⟩
   refine Xeaa hit fun oi' g1 g2 g3 => ?_
   haveI S' := S.setW (tk := s.toks) h1 hs g1
   have fin : Q v { s with heap := h' } := hQ v P _ _ (.refl _) S' (fun a ha => Mp.upd_ne _ _ ha) e2 ⟨oi', l, o, vs, i + 1, Mp.upd_self .., g2, g3, h4, h5, e3, by
     cases tgt <;> first | trivial | exact h7.elim | exact fun d' hd => h7 d' (.tail _ hd)⟩
   cases tgt with
   | Name x px => exact wpAny_pure fin
   | Tuple es kk pp =>
     refine Xe (h7 d (.head _)) fun xs q1 => ?_; subst q1
     refine Xeeea e2 fun a _ _ q3 _ => ?_; subst q3
     exact wpAny_letOwnedTupleGo_listiter (i := i + 1) ⟨oi', g1, g2, g3⟩ fin
   | _ => exact h7.elim
noncomputable def fItL (ok : List D → Bool) (f : FnD) (σ : LS) : Option (List D × LS) := (f σ).bind fun p => match p.1 with
 | .list ds => if ok ds then some (ds, p.2) else none
 | _ => none
noncomputable def allTup : List D → Bool := fun ds => ds.all fun d => match d with | .tup _ => true | _ => false
theorem iter_new {P1 W1 : Mp} {F1 : Addr → Prop} {own1 : Nat → Addr} {σ1 : LS} {b : Addr} {o : Obj} {it : Value} {J : List D → Mp → Mp → Prop} {X : Prop} (T1 : Step P W F P1 W1 F1) (R1 : RelEnv C vars env σ1 P1 W1 F1 vm own1) (nW : W1 b = none)
   (h : Step P W F P1 (W1.upd b o) (fun a => F1 a ∧ (W1 a).isSome = true) → RelEnv C vars env σ1 P1 (W1.upd b o) (fun a => F1 a ∧ (W1 a).isSome = true) vm own1 → (∀ a, a = b → ¬ (F1 a ∧ (W1 a).isSome = true) ∧ (¬ F a → W a = none)) → (∀ a, a = b → ∀ y c, env.cells.lookup y = some c → a ≠ c) → X) : X := by
 have ne : ∀ {a : Addr} {oa : Obj}, W1 a = some oa → a ≠ b := fun {a oa} e => by rintro rfl; rw [nW] at e; cases e
 refine h ⟨T1.p, fun a oa ea n => ?_, fun a h => T1.f a h.1⟩ (R1.cut.frameW (fun a oa _ ea => ?_) (fun x c oc ex ec => ?_) fun _ h => h) (fun a ha => ⟨fun q => ?_, fun n => ?_⟩) (fun a ha y c hc => ?_)
 · haveI := T1.w a oa ea n; rw [Mp.upd_ne _ _ (ne this)]; exact this
 · rw [Mp.upd_ne _ _ (ne ea)]; exact ea
 · rw [Mp.upd_ne _ _ (ne ec)]; exact ec
 · rw [ha, nW] at q; cases q.2
 · cases q : W a with
   | none => rfl
   | some oa => have := T1.w a oa q n; rw [ha, nW] at this; cases this
 · subst ha
   rintro rfl
   refine Xea (R1.vs.cel y _ hc) fun oc h1 _ => ?_
   rw [nW] at h1; cases h1
theorem IOK_listG {tgt e : Expr} {ok : List D → Bool} {f : FnD} (h : EOK C k sc vars e f) (ht : ∀ ds, ok ds = true → LTgt tgt ds) : IOK C k sc vars tgt e (fItL ok f) := by
 constructor
 intro env A P W F vm own s σ σ' ds Q G Rm S R hf hQ
 unfold fItL at hf
 refine bs2 hf fun a σ1 e1 hf => ?_
 cases a <;> first | exact ns hf | (cases hf; done) | skip
 rename_i xs
 dsimp only at hf
 split at hf <;> cases hf
 rename_i hok
 refine h.go env A P W F vm own s σ _ _ _ G Rm S R e1 fun v P1 W1 F1 own1 s1 S1 T1 R1 r1 => ?_
 obtain ⟨l, o, vs, rfl, p1, q1, r1⟩ := r1
 refine wpAny_pyIter_list (q1.list (S1.p _ _ p1)) ?_
 haveI S2 := S1.newW (tk := s1.toks) (o := { cls := .type "list_iterator", data := .fields #[.ref l, .int 0 0] }) rfl
 haveI nW : W1 s1.heap.objs.size = none := S1.freshW
 exact iter_new T1 R1 nW (it := .ref s1.heap.objs.size) (J := LJ C tgt s1.heap.objs.size) (fun hT hR h1 h2 => hQ _ _ _ _ _ _ own1 _ S2 hT hR listIt ⟨_, l, o, vs, 0, Mp.upd_self .., rfl, rfl, p1, q1, by simpa using r1, ht _ hok⟩ h1 h2)
theorem IOK_list {x : Str} {px : Pos} {e : Expr} {f : FnD} (h : EOK C k sc vars e f) : IOK C k sc vars (.Name x px) e (fItL (fun _ => true) f) := IOK_listG h fun _ _ => trivial
theorem IOK_listT {es : List Expr} {kk : Nat} {pp : Pos} {e : Expr} {f : FnD} (h : EOK C k sc vars e f) : IOK C k sc vars (.Tuple es kk pp) e (fItL allTup f) :=
 IOK_listG h fun ds hd d hm => by
   have := List.all_eq_true.mp hd d hm
   cases d <;> first | (simp at this; done) | exact ⟨_, rfl⟩
end
section
theorem iter_more {P1 W1 W2 : Mp} {F1 ia : Addr → Prop} {own1 : Nat → Addr} {σ1 : LS} {X : Prop} (T1 : Step P W F P1 W1 F1) (R1 : RelEnv C vars env σ1 P1 W1 F1 vm own1) (hW : ∀ a o, W1 a = some o → W2 a = some o) (hia : ∀ a, ia a → W1 a = none)
   (h : Step P W F P1 W2 (fun a => F1 a ∧ (W1 a).isSome = true) → RelEnv C vars env σ1 P1 W2 (fun a => F1 a ∧ (W1 a).isSome = true) vm own1 → (∀ a, ia a → ¬ (F1 a ∧ (W1 a).isSome = true) ∧ (¬ F a → W a = none)) → (∀ a, ia a → ∀ y c, env.cells.lookup y = some c → a ≠ c) → X) : X := by
 refine h ⟨T1.p, fun a oa ea n => hW a oa (T1.w a oa ea n), fun a h => T1.f a h.1⟩ (R1.cut.frameW (fun a oa _ ea => hW a oa ea) (fun x c oc ex ec => hW c oc ec) fun _ h => h) (fun a ha => ⟨fun q => ?_, fun n => ?_⟩) (fun a ha y c hc => ?_)
 · rw [hia a ha] at q; cases q.2
 · cases q : W a with
   | none => rfl
   | some oa => have := T1.w a oa q n; rw [hia a ha] at this; cases this
 · rintro rfl
   refine Xea (R1.vs.cel y _ hc) fun oc h1 _ => ?_
   rw [hia _ ha] at h1; cases h1
theorem St.moreW {W2 : Mp} {h' : Heap} {tk : Nat} (S : St C P W s) (hk : ∀ a o, s.heap.get? a = some o → h'.get? a = some o) (hW : ∀ a o, W2 a = some o → W a = some o ∨ (h'.get? a = some o ∧ s.heap.get? a = none)) : St C P W2 { s with heap := h', toks := tk } :=
 ⟨S.gens, S.drawn, S.os, S.base, fun a o e => hk a o (S.p a o e), fun a o e => (hW a o e).elim (fun h => ⟨hk a o (S.w a o h).1, (S.w a o h).2⟩) fun h => ⟨h.1, by
   cases q : P a with
   | none => rfl
   | some o' => have := S.p a o' q; rw [h.2] at this; cases this⟩⟩
theorem ge_none {h : Heap} {a : Addr} (ha : h.objs.size ≤ a) : h.get? a = none := by
 cases q : h.get? a with
 | none => rfl
 | some o => exact absurd (Heap.lt_size q) (Nat.not_lt.mpr ha)
theorem geW (S : St C P W s) {a : Addr} (ha : s.heap.objs.size ≤ a) : W a = none := by
 cases q : W a with
 | none => rfl
 | some o => have := (S.w a o q).1; rw [ge_none ha] at this; cases this
theorem geP (S : St C P W s) {a : Addr} (ha : s.heap.objs.size ≤ a) : P a = none := by
 cases q : P a with
 | none => rfl
 | some o => have := S.p a o q; rw [ge_none ha] at this; cases this
theorem call_type {T : String} {x : Str} {fp pos : Pos} {e : Expr} {es : List Expr} {E : Value → Shared → Prop} {Q : Value → Shared → Prop} (ok : C.OK) (G : EnvG sc env) (S : St C P W s) (hx : sc.names.lookup x = some .globalImplicit)
   (en : nsIn C.K mainGlobals x = some none) (hb : bootBuiltins x = some (.type T)) (hn : x ≠ "__name__") (hd : (x == ("__debug__" : Str)) = false)
   (h : wpAny C.M A (spliced (backTo pos (starEach (e :: es) env))) (fun vs s₁ => wpAny C.M A (call (.type T) vs) Q E s₁) E s)
   (he : starEach (e :: es) env = (false, eval e env) :: starEach es env) (hp : (backTo pos (starEach es env)).any (·.1) = false) :
   wpAny C.M A (eval (.Call (.Name x fp) (e :: es) [] pos) env) Q E s := by
 show wpAny C.M A (eval (.Name x fp) env >>= fun f => callWith pos f [] (backTo pos (starEach (e :: es) env)) (backToKw pos (keywordEach [] env))) Q E s
 refine wpAny_bind (Name_function_global G.kind ((G.kindOf x).trans hx) (loadGlobal_builtin (by rw [G.g]; exact ok.T.g.keeps S.keepH) (mg_none_of ok.X ok.T.g en) (by rw [G.b]; exact ok.T.b.keeps S.keepH) ((ok.T.builtins x hn).trans hb) ?_) hd)
 rw [he] at h ⊢
 exact PySem.callWith_type (by show (false || (backTo pos (starEach es env)).any (·.1)) = false; rw [hp]; rfl) (evalArgs_plain h)
theorem call_bi {T : String} {x : Str} {fp pos : Pos} {e : Expr} {es : List Expr} {E : Value → Shared → Prop} {Q : Value → Shared → Prop} (ok : C.OK) (G : EnvG sc env) (S : St C P W s) (hx : sc.names.lookup x = some .globalImplicit)
   (en : nsIn C.K mainGlobals x = some none) (hb : bootBuiltins x = some (.builtin T)) (hn : x ≠ "__name__") (hd : (x == ("__debug__" : Str)) = false)
   (h : wpAny C.M A (spliced (backTo pos (starEach (e :: es) env))) (fun vs s₁ => wpAny C.M A (call (.builtin T) vs) Q E s₁) E s)
   (he : starEach (e :: es) env = (false, eval e env) :: starEach es env) (hp : (backTo pos (starEach es env)).any (·.1) = false) :
   wpAny C.M A (eval (.Call (.Name x fp) (e :: es) [] pos) env) Q E s := by
 show wpAny C.M A (eval (.Name x fp) env >>= fun f => callWith pos f [] (backTo pos (starEach (e :: es) env)) (backToKw pos (keywordEach [] env))) Q E s
 refine wpAny_bind (Name_function_global G.kind ((G.kindOf x).trans hx) (loadGlobal_builtin (by rw [G.g]; exact ok.T.g.keeps S.keepH) (mg_none_of ok.X ok.T.g en) (by rw [G.b]; exact ok.T.b.keeps S.keepH) ((ok.T.builtins x hn).trans hb) ?_) hd)
 rw [he] at h ⊢
 exact callWith_builtin (by show (false || (backTo pos (starEach es env)).any (·.1)) = false; rw [hp]; rfl) (evalArgs_plain h)
noncomputable def rangeD (n : Int) : List D := (List.range n.toNat).map fun (i : Nat) => .int i
inductive RJ (it : Addr) (ds : List D) (_P W : Mp) : Prop
 | mk (x left : Int) (h0 : 0 ≤ left) (h1 : W it = some { cls := .type "range_iterator", dict := none, data := .fields #[rawInt x, rawInt left, rawInt 1], slots := #[] }) (h2 : ds = (List.range left.toNat).map fun (i : Nat) => D.int (x + (i : Int))) : RJ it ds _P W
theorem rangeIt {x : Str} {px : Pos} {it : Addr} : ItS C (.Name x px) (.ref it) (fun a => a = it) (RJ it) where
 keep := fun ds P W P' W' ⟨a, l, h0, h1, h2⟩ _ hW => ⟨a, l, h0, hW _ _ rfl h1, h2⟩
 has := fun ds P W a ⟨_, _, _, h1, _⟩ h => ⟨_, (congrArg W h).trans h1⟩
 self := fun A P W s ds E Q ⟨a, l, h0, h1, h2⟩ S h => wpAny_pyIter_rangeiter (S.w _ _ h1).1 h
 nil := fun A P W s Q hh ⟨a, l, h0, h1, h2⟩ S hQ => by
   have hl : l.toNat = 0 := by
     cases q : l.toNat with
     | zero => rfl
     | succ n => rw [q, List.range_succ_eq_map] at h2; cases h2
   exact wpAny_pyNext_range_end hh (S.w _ _ h1).1 (by lia) fun h' hs => hQ _ _ (S.endIt (tk := s.toks) h1 hs) fun a ha => Mp.del_ne _ ha
 cons := fun A P W s d ds Q hh ⟨a, l, h0, h1, h2⟩ S hQ => by
   obtain ⟨n, hn⟩ : ∃ n, l.toNat = n + 1 := by
     cases q : l.toNat with
     | zero => rw [q] at h2; cases h2
     | succ n => exact ⟨n, rfl⟩
   rw [hn, List.range_succ_eq_map, List.map_cons, List.map_map] at h2
   injection h2 with h3 h4
   refine wpAny_pyNext_range_item (S.w _ _ h1).1 (by omega) fun h' hit hs => ⟨_, rfl, ?_⟩
   refine wpAny_pure (hQ _ P _ _ (.refl _) (S.setW (tk := s.toks + 1) h1 hs hit) (fun a ha => Mp.upd_ne _ _ ha) ?_ ⟨a + 1, l - 1, by omega, Mp.upd_self .., ?_⟩)
   · rw [h3]; exact ⟨s.toks, by simp⟩
   · rw [h4, show (l - 1).toNat = n by omega]
     refine List.map_congr_left fun i _ => ?_
     simp only [Function.comp]
     congr 1
     lia
noncomputable def fRange (f : FnD) (σ : LS) : Option (List D × LS) := (f σ).bind fun p => match p.1 with
 | .int n => if okI n then some (rangeD n, p.2) else none
 | _ => none
theorem IOK_range {x : Str} {px fp pos : Pos} {e : Expr} {f : FnD} (ok : C.OK) (h : EOK C k sc vars e f) (hx : sc.names.lookup ("range" : Str) = some .globalImplicit) (en : nsIn C.K mainGlobals ("range" : Str) = some none)
   (hst : ∀ env, starEach [e] env = (false, eval e env) :: starEach [] env) : IOK C k sc vars (.Name x px) (.Call (.Name "range" fp) [e] [] pos) (fRange f) := by
 constructor
 intro env A P W F vm own s σ σ' ds Q G Rm S R hf hQ
 unfold fRange at hf
 refine bs2 hf fun a σ1 e1 hf => ?_
 cases a <;> first | exact ns hf | (cases hf; done) | skip
 rename_i n
 dsimp only at hf
 split at hf <;> cases hf
 rename_i hn
 refine call_type ok G S hx en rfl dc dc ?_ (hst env) rfl
 rw [hst]
 refine spliced_cons (h.go env A P W F vm own s σ _ _ _ G Rm S R e1 fun v P1 W1 F1 own1 s1 S1 T1 R1 r1 => spliced_nil ?_)
 obtain ⟨t, rfl⟩ := r1
 refine call_range_1 ?_
 haveI S2 := S1.ext (h' := s1.heap.push { cls := .type "range", data := .fields #[.int 0 s1.toks, .int n t, .int 1 (s1.toks + 1)] }) (tk := s1.toks + 1 + 1) fun a o e => Heap.get?_push_of_some _ e
 refine wpAny_pyIter_range (Heap.get?_push_size _ rfl) (PySem.small_one (by omega) (by omega) (by have := hn.1; omega) (by have := hn.2; omega)) ?_
 haveI S3 := S2.newW (tk := s1.toks + 1 + 1) (o := { cls := .type "range_iterator", data := .fields #[rawInt 0, rawInt (Builtin.Range.rangeSize 0 n 1), rawInt 1] }) rfl
 haveI nW := S2.freshW
 refine iter_more (ia := fun a => a = (s1.heap.push { cls := .type "range", data := .fields #[.int 0 s1.toks, .int n t, .int 1 (s1.toks + 1)] }).objs.size) T1 R1 (fun a o ea => ?_) (fun a ha => by rw [ha]; exact nW) fun hT hR h1 h2 => hQ _ _ _ _ _ _ own1 _ S3 hT hR rangeIt ⟨0, (n.toNat : Nat), by lia, ?_, ?_⟩ h1 h2
 · rw [Mp.upd_ne]; exact ea
   rintro rfl; rw [nW] at ea; cases ea
 · haveI e : Builtin.Range.rangeSize 0 n 1 = ((n.toNat : Nat) : Int) := by
     rw [PySem.rangeSize_one]
     split <;> lia
   rw [Mp.upd_self, e]
 · unfold rangeD
   rw [Int.toNat_natCast]
   exact List.map_congr_left fun i _ => by rw [Int.zero_add]
inductive EJ (C : Cx) (e it : Addr) (ds : List D) (P W : Mp) : Prop
 | mk (oi : _) (l : _) (o : _) (vs : _) (i : _) (old : _) (xs : _) (h0 : W e = some { cls := .type "enumerate", dict := none, data := .fields #[.none, .bool false, .ref it, rawInt ((i : Nat) : Int), .none, old], slots := #[] }) (h1 : W it = some oi) (h2 : oi.cls = .type "list_iterator") (h3 : oi.data = .fields #[.ref l, .int ((i : Nat) : Int) 0]) (h4 : P l = some o) (h5 : IsLst o vs) (h6 : Reps C P xs (vs.drop i)) (h7 : ds = (xs.zipIdx i).map fun x => D.tup [.int (x.2 : Nat), x.1]) : EJ C e it ds P W
theorem enumIt {es : List Expr} {kk : Nat} {pp : Pos} {e it : Addr} (hne : e ≠ it) : ItS C (.Tuple es kk pp) (.ref e) (fun a => a = e ∨ a = it) (EJ C e it) where
 keep := fun ds P W P' W' ⟨oi, l, o, vs, i, old, xs, h0, h1, h2, h3, h4, h5, h6, h7⟩ hP hW => ⟨oi, l, o, vs, i, old, xs, hW _ _ (.inl rfl) h0, hW _ _ (.inr rfl) h1, h2, h3, hP _ _ h4, h5, Reps.mono hP _ h6, h7⟩
 has := fun ds P W a ⟨oi, _, _, _, _, _, _, h0, h1, _, _, _, _, _, _⟩ h => h.elim (fun h => ⟨_, (congrArg W h).trans h0⟩) fun h => ⟨_, (congrArg W h).trans h1⟩
 self := fun A P W s ds E Q ⟨oi, l, o, vs, i, old, xs, h0, _, _, _, _, _, _, _⟩ S h => wpAny_pyIter_enum (S.w _ _ h0).1 h
 nil := fun A P W s Q hh ⟨oi, l, o, vs, i, old, xs, h0, h1, h2, h3, h4, h5, h6, h7⟩ S hQ => by
   have hx : xs = [] := by
     cases xs with
     | nil => rfl
     | cons x r => cases h7
   subst hx
   refine wpAny_pyNext_enum_end hh (S.w _ _ h0).1 ⟨oi, (S.w _ _ h1).1, h2, h3⟩ (h5.list (S.p _ _ h4)) (reps_nil_drop h6) fun h' hs => ?_
   exact hQ _ _ (S.endIt (tk := s.toks) h1 hs) fun a ha => Mp.del_ne _ fun q => ha (.inr q)
 cons := fun A P W s d ds Q hh ⟨oi, l, o, vs, i, old, xs, h0, h1, h2, h3, h4, h5, h6, h7⟩ S hQ => by
   cases xs with
   | nil => cases h7
   | cons x r =>
     rw [List.zipIdx_cons, List.map_cons] at h7
     injection h7 with h8 h9
     refine Xeaa (reps_cons_drop h6) fun v e1 e2 e3 => ?_
     refine wpAny_pyNext_enum_item (S.w _ _ h0).1 ⟨oi, (S.w _ _ h1).1, h2, h3⟩ (h5.list (S.p _ _ h4)) e1 hne fun h' hE hI hT _ hk => ⟨_, rfl, ?_⟩
     refine wpAny_letOwnedTupleGo_enum hE fun h'' hE' hs => ?_
     refine Xeaa hI fun oi' g1 g2 g3 => ?_
     have ne : s.heap.objs.size ≠ e := fun q => by haveI := (S.w _ _ h0).1; rw [← q] at this; exact Nat.lt_irrefl _ (Heap.lt_size this)
     have ni : s.heap.objs.size ≠ it := fun q => by haveI := (S.w _ _ h1).1; rw [← q] at this; exact Nat.lt_irrefl _ (Heap.lt_size this)
     haveI hle : P.Le (P.upd s.heap.objs.size { cls := .type "tuple", data := .seq #[.int i s.toks, v] }) := Mp.Le.upd S.freshP
     have keep : ∀ b ob, b ≠ e → b ≠ it → s.heap.get? b = some ob → h''.get? b = some ob := fun b ob n1 n2 q => (hs.2 b n1).trans (hk b ob n1 n2 q)
     have pe : ∀ {b : Addr} {ob : Obj}, P b = some ob → b ≠ e ∧ b ≠ it := fun {b ob} q => ⟨(by rintro rfl; rw [(S.w _ _ h0).2] at q; cases q), (by rintro rfl; rw [(S.w _ _ h1).2] at q; cases q)⟩
     haveI nP := S.freshP
     haveI nW := S.freshW
     refine hQ _ _ ((W.upd it oi').upd e { cls := .type "enumerate", dict := none, data := .fields #[.none, .bool false, .ref it, rawInt ((i : Int) + 1), .none, v], slots := #[] }) _ hle ⟨S.gens, S.drawn, S.os, fun b ob q => hle _ _ (S.base b ob q), fun b ob q => ?_, fun b ob q => ?_⟩
       (fun a ha => ?_) ?_ ⟨oi', l, o, vs, i + 1, v, r, ?_, ?_, g2, g3, hle _ _ h4, h5, Reps.mono hle _ e3, h9⟩
     · by_cases hb : b = s.heap.objs.size
       · subst hb; rw [Mp.upd_self] at q; cases q; exact (hs.2 _ ne).trans hT
       · rw [Mp.upd_ne _ _ hb] at q; exact keep b ob (pe q).1 (pe q).2 (S.p b ob q)
     · by_cases hb : b = e
       · subst hb; rw [Mp.upd_self] at q; cases q; exact ⟨hE', by rw [Mp.upd_ne _ _ (Ne.symm ne)]; exact (S.w _ _ h0).2⟩
       · rw [Mp.upd_ne _ _ hb] at q
         by_cases hb' : b = it
         · subst hb'; rw [Mp.upd_self] at q; cases q; exact ⟨(hs.2 _ hb).trans g1, by rw [Mp.upd_ne _ _ (Ne.symm ni)]; exact (S.w _ _ h1).2⟩
         · rw [Mp.upd_ne _ _ hb'] at q
           exact ⟨keep b ob hb hb' (S.w b ob q).1, by
             rw [Mp.upd_ne]
             · exact (S.w b ob q).2
             · rintro rfl; rw [nW] at q; cases q⟩
     · rw [Mp.upd_ne _ _ fun q => ha (.inl q), Mp.upd_ne _ _ fun q => ha (.inr q)]
     · rw [h8]
       exact Ieeeaaa _ _ ([.int i s.toks, v]) rfl (Mp.upd_self ..) ⟨0, rfl⟩ (⟨_, _, rfl, ⟨_, rfl⟩, _, _, rfl, Rep.mono hle _ e2, rfl⟩)
     · rw [Mp.upd_self]; rfl
     · rw [Mp.upd_ne _ _ (Ne.symm hne), Mp.upd_self]
noncomputable def fEnum (f : FnD) (σ : LS) : Option (List D × LS) := (f σ).bind fun p => match p.1 with
 | .list xs => some (xs.zipIdx.map fun x => D.tup [.int (x.2 : Nat), x.1], p.2)
 | _ => none
theorem IOK_enum {es : List Expr} {kk : Nat} {pp fp pos : Pos} {e : Expr} {f : FnD} (ok : C.OK) (h : EOK C k sc vars e f) (hx : sc.names.lookup ("enumerate" : Str) = some .globalImplicit) (en : nsIn C.K mainGlobals ("enumerate" : Str) = some none)
   (hst : ∀ env, starEach [e] env = (false, eval e env) :: starEach [] env) : IOK C k sc vars (.Tuple es kk pp) (.Call (.Name "enumerate" fp) [e] [] pos) (fEnum f) := by
 constructor
 intro env A P W F vm own s σ σ' ds Q G Rm S R hf hQ
 unfold fEnum at hf
 refine bs2 hf fun a σ1 e1 hf => ?_
 cases a <;> first | exact ns hf | (cases hf; done) | skip
 rename_i xs
 dsimp only at hf
 nomatch hf, hQ
 refine call_type ok G S hx en rfl dc dc ?_ (hst env) rfl
 rw [hst]
 refine spliced_cons (h.go env A P W F vm own s σ _ _ _ G Rm S R e1 fun v P1 W1 F1 own1 s1 S1 T1 R1 r1 => spliced_nil ?_)
 obtain ⟨l, o, vs, rfl, p1, q1, r1⟩ := r1
 refine PySem.call_enumerate_list (q1.list (S1.p _ _ p1)) fun h' hE hI hsz hk => ?_
 refine wpAny_pyIter_enum hE ?_
 obtain ⟨oi, g1, g2, g3⟩ := hI
 haveI n0 : s1.heap.objs.size ≠ s1.heap.objs.size + 1 := Nat.ne_of_lt (Nat.lt_succ_self _)
 have w0 : W1 s1.heap.objs.size = none := S1.freshW
 have w1 : W1 (s1.heap.objs.size + 1) = none := geW S1 (Nat.le_succ _)
 refine iter_more (ia := fun a => a = s1.heap.objs.size + 1 ∨ a = s1.heap.objs.size) (W2 := (W1.upd s1.heap.objs.size oi).upd (s1.heap.objs.size + 1) _) T1 R1 (fun a o ea => ?_) (fun a ha => ?_)
   fun hT hR h1 h2 => hQ _ _ _ _ _ _ own1 _ (S1.moreW (tk := s1.toks) hk fun a o q => ?_) hT hR (enumIt (Ne.symm n0)) ⟨oi, l, o, vs, 0, .none, xs, Mp.upd_self .., ?_, g2, g3, p1, q1, by simpa using r1, rfl⟩ h1 h2
 · rw [Mp.upd_ne, Mp.upd_ne]
   · exact ea
   · rintro rfl; rw [w0] at ea; cases ea
   · rintro rfl; rw [w1] at ea; cases ea
 · rcases ha with rfl | rfl
   · exact w1
   · exact w0
 · by_cases ha : a = s1.heap.objs.size + 1
   · subst ha; rw [Mp.upd_self] at q; cases q; exact .inr ⟨hE, ge_none (Nat.le_succ _)⟩
   · rw [Mp.upd_ne _ _ ha] at q
     by_cases ha' : a = s1.heap.objs.size
     · subst ha'; rw [Mp.upd_self] at q; cases q; exact .inr ⟨g1, size_none _⟩
     · rw [Mp.upd_ne _ _ ha'] at q; exact .inl q
 · rw [Mp.upd_ne _ _ n0, Mp.upd_self]
end
section
noncomputable def zipO (TI TO : Addr) (f0 : Value) : Obj := { cls := .type "zip", dict := none, data := .fields #[f0, .bool false, .bool false, .ref TI, .ref TO], slots := #[] }
noncomputable def pairO (a b : Value) : Obj := { cls := .type "tuple", data := .seq #[a, b] }
noncomputable def zipD (xs ys : List D) : List D := (xs.zip ys).map fun p => .tup [p.1, p.2]
inductive ZJ (C : Cx) (z TI TO i1 i2 : Addr) (ds : List D) (P W : Mp) : Prop
 | mk (o1 : _) (o2 : _) (l1 : _) (l2 : _) (ol1 : _) (ol2 : _) (us : _) (vs : _) (k1 : _) (k2 : _) (a : _) (b : _) (xs : _) (ys : _) (h0 : W z = some (zipO TI TO .none)) (h1 : W TI = some (pairO (.ref i1) (.ref i2))) (h2 : W TO = some (pairO a b)) (h3 : W i1 = some o1) (h4 : o1.cls = .type "list_iterator") (h5 : o1.data = .fields #[.ref l1, .int ((k1 : Nat) : Int) 0]) (h6 : W i2 = some o2) (h7 : o2.cls = .type "list_iterator") (h8 : o2.data = .fields #[.ref l2, .int ((k2 : Nat) : Int) 0]) (h9 : P l1 = some ol1) (h10 : IsLst ol1 us) (h11 : Reps C P xs (us.drop k1)) (h12 : P l2 = some ol2) (h13 : IsLst ol2 vs) (h14 : Reps C P ys (vs.drop k2)) (h15 : ds = zipD xs ys) : ZJ C z TI TO i1 i2 ds P W
theorem addN (n a b : Nat) (h : a ≠ b) : n + a ≠ n + b := by lia
structure Five (z TI TO i1 i2 : Addr) : Prop where
 a : TI ≠ z
 b : TO ≠ z
 c : i1 ≠ z
 d : i2 ≠ z
 e : TI ≠ TO
 f : TI ≠ i1
 g : TI ≠ i2
 h : TO ≠ i1
 i : TO ≠ i2
 j : i1 ≠ i2
theorem PW_ne (S : St C P W s) {a b : Addr} {o o' : Obj} (h : P a = some o) (g : W b = some o') : a ≠ b := by
 rintro rfl; rw [(S.w _ _ g).2] at h; cases h
theorem zipIt {es : List Expr} {kk : Nat} {pp : Pos} {z TI TO i1 i2 : Addr} (X : Five z TI TO i1 i2) : ItS C (.Tuple es kk pp) (.ref z) (fun a => a = z ∨ a = TI ∨ a = TO ∨ a = i1 ∨ a = i2) (ZJ C z TI TO i1 i2) where
 keep := fun ds P W P' W' ⟨o1, o2, l1, l2, ol1, ol2, us, vs, k1, k2, a, b, xs, ys, h1, h2, h3, h4, h5, h6, h7, h8, h9, p1, p2, p3, p4, p5, p6, e⟩ hP hW =>
   ⟨o1, o2, l1, l2, ol1, ol2, us, vs, k1, k2, a, b, xs, ys, hW _ _ (.inl rfl) h1, hW _ _ (.inr (.inl rfl)) h2, hW _ _ (.inr (.inr (.inl rfl))) h3, hW _ _ (.inr (.inr (.inr (.inl rfl)))) h4, h5, h6, hW _ _ (.inr (.inr (.inr (.inr rfl)))) h7, h8, h9,
     hP _ _ p1, p2, Reps.mono hP _ p3, hP _ _ p4, p5, Reps.mono hP _ p6, e⟩
 has := fun ds P W x ⟨o1, o2, l1, l2, ol1, ol2, us, vs, k1, k2, a, b, xs, ys, h1, h2, h3, h4, h5, h6, h7, h8, h9, p1, p2, p3, p4, p5, p6, e⟩ h => by
   rcases h with rfl | rfl | rfl | rfl | rfl
   · exact ⟨_, h1⟩
   · exact ⟨_, h2⟩
   · exact ⟨_, h3⟩
   · exact ⟨_, h4⟩
   · exact ⟨_, h7⟩
 self := fun A P W s ds E Q ⟨o1, o2, l1, l2, ol1, ol2, us, vs, k1, k2, a, b, xs, ys, h1, _, _, _, _, _, _, _, _, _, _, _, _, _, _, _⟩ S h => wpAny_pyIter_zip (S.w _ _ h1).1 h
 nil := fun A P W s Q hh ⟨o1, o2, l1, l2, ol1, ol2, us, vs, k1, k2, a, b, xs, ys, h1, h2, h3, h4, h5, h6, h7, h8, h9, p1, p2, p3, p4, p5, p6, e⟩ S hQ => by
   have D : ZipApart z TI TO i1 i2 l1 l2 := ⟨X.a, X.b, X.c, X.d, X.e, X.f, X.g, X.h, X.i, X.j, PW_ne S p1 h1, PW_ne S p1 h3, PW_ne S p1 h4, PW_ne S p1 h7, PW_ne S p4 h1, PW_ne S p4 h3, PW_ne S p4 h4, PW_ne S p4 h7⟩
   haveI hend : us.toArray[k1]? = none ∨ vs.toArray[k2]? = none := by
     cases xs with
     | nil => exact .inl (reps_nil_drop p3)
     | cons x r =>
       cases ys with
       | nil => exact .inr (reps_nil_drop p6)
       | cons y r' => cases e
   refine wpAny_pyNext_zip_end hh D (S.w _ _ h1).1 (S.w _ _ h2).1 (S.w _ _ h3).1 ⟨o1, (S.w _ _ h4).1, h5, h6⟩ ⟨o2, (S.w _ _ h7).1, h8, h9⟩ (p2.list (S.p _ _ p1)) (p5.list (S.p _ _ p4)) hend fun h' hk => ?_
   refine hQ (((( W.del z).del TO).del i1).del i2) _ ⟨S.gens, S.drawn, S.os, S.base, fun c o q => hk c o (PW_ne S q h1) (PW_ne S q h3) (PW_ne S q h4) (PW_ne S q h7) (S.p c o q), fun c o q => ?_⟩ fun c hc => ?_
   · by_cases n1 : c = i2
     · subst n1; rw [Mp.del_self] at q; cases q
     rw [Mp.del_ne _ n1] at q
     by_cases n2 : c = i1
     · subst n2; rw [Mp.del_self] at q; cases q
     rw [Mp.del_ne _ n2] at q
     by_cases n3 : c = TO
     · subst n3; rw [Mp.del_self] at q; cases q
     rw [Mp.del_ne _ n3] at q
     by_cases n4 : c = z
     · subst n4; rw [Mp.del_self] at q; cases q
     rw [Mp.del_ne _ n4] at q
     exact ⟨hk c o n4 n3 n2 n1 (S.w c o q).1, (S.w c o q).2⟩
   · rw [Mp.del_ne _ fun q => hc (.inr (.inr (.inr (.inr q)))), Mp.del_ne _ fun q => hc (.inr (.inr (.inr (.inl q)))), Mp.del_ne _ fun q => hc (.inr (.inr (.inl q))), Mp.del_ne _ fun q => hc (.inl q)]
 cons := fun A P W s d ds Q hh ⟨o1, o2, l1, l2, ol1, ol2, us, vs, k1, k2, a, b, xs, ys, h1, h2, h3, h4, h5, h6, h7, h8, h9, p1, p2, p3, p4, p5, p6, e⟩ S hQ => by
   cases xs with
   | nil => cases e
   | cons x r =>
     cases ys with
     | nil => cases e
     | cons y r' =>
       unfold zipD at e
       rw [List.zip_cons_cons, List.map_cons] at e
       injection e with e1 e2
       refine Xeaa (reps_cons_drop p3) fun u q1 q2 q3 => ?_
       refine Xeaa (reps_cons_drop p6) fun v q4 q5 q6 => ?_
       have D : ZipApart z TI TO i1 i2 l1 l2 := ⟨X.a, X.b, X.c, X.d, X.e, X.f, X.g, X.h, X.i, X.j, PW_ne S p1 h1, PW_ne S p1 h3, PW_ne S p1 h4, PW_ne S p1 h7, PW_ne S p4 h1, PW_ne S p4 h3, PW_ne S p4 h4, PW_ne S p4 h7⟩
       refine wpAny_pyNext_zip_item D (S.w _ _ h1).1 (S.w _ _ h2).1 (S.w _ _ h3).1 ⟨o1, (S.w _ _ h4).1, h5, h6⟩ ⟨o2, (S.w _ _ h7).1, h8, h9⟩ (p2.list (S.p _ _ p1)) (p5.list (S.p _ _ p4)) q1 q4 fun h' hz hTO hI1 hI2 hT _ hk => ⟨_, rfl, ?_⟩
       refine wpAny_letOwnedTupleGo_zip hz fun h'' hz' hs => ?_
       refine Xeaa hI1 fun o1' g1 g2 g3 => ?_
       refine Xeaa hI2 fun o2' g4 g5 g6 => ?_
       haveI nP := S.freshP
       haveI nW := S.freshW
       haveI hle : P.Le (P.upd s.heap.objs.size (pairO u v)) := Mp.Le.upd nP
       have new_ne : ∀ {c : Addr} {o : Obj}, W c = some o → c ≠ s.heap.objs.size := fun {c o} q => by rintro rfl; rw [nW] at q; cases q
       have keep : ∀ c o, c ≠ z → c ≠ TO → c ≠ i1 → c ≠ i2 → s.heap.get? c = some o → h''.get? c = some o := fun c o n1 n2 n3 n4 q => (hs.2 c n1).trans (hk c o n1 n2 n3 n4 q)
       have PU : ∀ {c : Addr} {o : Obj}, W c = some o → (P.upd s.heap.objs.size (pairO u v)) c = none := fun {c o} q => by rw [Mp.upd_ne _ _ (new_ne q)]; exact (S.w _ _ q).2
       refine hQ _ _ ((((W.upd TO (pairO u v)).upd i1 o1').upd i2 o2').upd z (zipO TI TO .none)) _ hle ⟨S.gens, S.drawn, S.os, fun c o q => hle _ _ (S.base c o q), fun c o q => ?_, fun c o q => ?_⟩
         (fun c hc => ?_) ?_ ⟨o1', o2', l1, l2, ol1, ol2, us, vs, k1 + 1, k2 + 1, u, v, r, r', Mp.upd_self .., ?_, ?_, ?_, g2, g3, ?_, g5, g6, hle _ _ p1, p2, Reps.mono hle _ q3, hle _ _ p4, p5, Reps.mono hle _ q6, e2⟩
       · by_cases hc : c = s.heap.objs.size
         · subst hc; rw [Mp.upd_self] at q; cases q; exact (hs.2 _ (Ne.symm (new_ne h1))).trans hT
         · rw [Mp.upd_ne _ _ hc] at q; exact keep c o (PW_ne S q h1) (PW_ne S q h3) (PW_ne S q h4) (PW_ne S q h7) (S.p c o q)
       · by_cases n1 : c = z
         · subst n1; rw [Mp.upd_self] at q; cases q; exact ⟨hz', PU h1⟩
         rw [Mp.upd_ne _ _ n1] at q
         by_cases n2 : c = i2
         · subst n2; rw [Mp.upd_self] at q; cases q; exact ⟨(hs.2 _ n1).trans g4, PU h7⟩
         rw [Mp.upd_ne _ _ n2] at q
         by_cases n3 : c = i1
         · subst n3; rw [Mp.upd_self] at q; cases q; exact ⟨(hs.2 _ n1).trans g1, PU h4⟩
         rw [Mp.upd_ne _ _ n3] at q
         by_cases n4 : c = TO
         · subst n4; rw [Mp.upd_self] at q; cases q; exact ⟨(hs.2 _ n1).trans hTO, PU h3⟩
         rw [Mp.upd_ne _ _ n4] at q
         exact ⟨keep c o n1 n4 n3 n2 (S.w c o q).1, PU q⟩
       · rw [Mp.upd_ne _ _ fun q => hc (.inl q), Mp.upd_ne _ _ fun q => hc (.inr (.inr (.inr (.inr q)))), Mp.upd_ne _ _ fun q => hc (.inr (.inr (.inr (.inl q)))), Mp.upd_ne _ _ fun q => hc (.inr (.inr (.inl q)))]
       · rw [e1]
         exact Ieeeaaa _ _ ([u, v]) rfl (Mp.upd_self ..) ⟨0, rfl⟩ ⟨_, _, rfl, Rep.mono hle _ q2, _, _, rfl, Rep.mono hle _ q5, rfl⟩
       · rw [Mp.upd_ne _ _ X.a, Mp.upd_ne _ _ X.g, Mp.upd_ne _ _ X.f, Mp.upd_ne _ _ X.e]; exact h2
       · rw [Mp.upd_ne _ _ X.b, Mp.upd_ne _ _ X.i, Mp.upd_ne _ _ X.h, Mp.upd_self]
       · rw [Mp.upd_ne _ _ X.c, Mp.upd_ne _ _ X.j, Mp.upd_self]
       · rw [Mp.upd_ne _ _ X.d, Mp.upd_self]
noncomputable def fZip (f g : FnD) (σ : LS) : Option (List D × LS) := (f σ).bind fun p => (g p.2).bind fun q => match p.1, q.1 with
 | .list xs, .list ys => some (zipD xs ys, q.2)
 | _, _ => none
noncomputable def five (W : Mp) (n : Nat) (x0 x1 x2 x3 x4 : Obj) : Mp := fun (a : Nat) => if a = n then some x0 else if a = n + 1 then some x1 else if a = n + 2 then some x2 else if a = n + 3 then some x3 else if a = n + 4 then some x4 else W a
section
variable {U : Mp} {n : Nat} {x0 x1 x2 x3 x4 : Obj}
theorem five0 : five U n x0 x1 x2 x3 x4 n = some x0 := if_pos rfl
theorem five1 : five U n x0 x1 x2 x3 x4 (n + 1) = some x1 := (if_neg (addN n 1 0 dc)).trans (if_pos rfl)
theorem five2 : five U n x0 x1 x2 x3 x4 (n + 2) = some x2 := (if_neg (addN n 2 0 dc)).trans ((if_neg (addN n 2 1 dc)).trans (if_pos rfl))
theorem five3 : five U n x0 x1 x2 x3 x4 (n + 3) = some x3 := (if_neg (addN n 3 0 dc)).trans ((if_neg (addN n 3 1 dc)).trans ((if_neg (addN n 3 2 dc)).trans (if_pos rfl)))
theorem five4 : five U n x0 x1 x2 x3 x4 (n + 4) = some x4 := (if_neg (addN n 4 0 dc)).trans ((if_neg (addN n 4 1 dc)).trans ((if_neg (addN n 4 2 dc)).trans ((if_neg (addN n 4 3 dc)).trans (if_pos rfl))))
theorem five_lt {a : Nat} (h : a < n) : five U n x0 x1 x2 x3 x4 a = U a :=
 have f : ∀ k, ¬ a = n + k := fun k e => absurd h (Nat.not_lt.mpr (e ▸ Nat.le_add_right n k))
 (if_neg (f 0)).trans ((if_neg (f 1)).trans ((if_neg (f 2)).trans ((if_neg (f 3)).trans (if_neg (f 4)))))
theorem five_inv {a : Nat} {o : Obj} {G : Prop} (q : five U n x0 x1 x2 x3 x4 a = some o) (k0 : a = n → x0 = o → G) (k1 : a = n + 1 → x1 = o → G) (k2 : a = n + 2 → x2 = o → G) (k3 : a = n + 3 → x3 = o → G) (k4 : a = n + 4 → x4 = o → G) (k5 : U a = some o → G) : G := by
 unfold five at q
 by_cases h0 : a = n
 · rw [if_pos h0] at q; exact k0 h0 (sinj q)
 rw [if_neg h0] at q
 by_cases h1 : a = n + 1
 · rw [if_pos h1] at q; exact k1 h1 (sinj q)
 rw [if_neg h1] at q
 by_cases h2 : a = n + 2
 · rw [if_pos h2] at q; exact k2 h2 (sinj q)
 rw [if_neg h2] at q
 by_cases h3 : a = n + 3
 · rw [if_pos h3] at q; exact k3 h3 (sinj q)
 rw [if_neg h3] at q
 by_cases h4 : a = n + 4
 · rw [if_pos h4] at q; exact k4 h4 (sinj q)
 rw [if_neg h4] at q
 exact k5 q
theorem ge5 {a : Nat} (h : a = n + 4 ∨ a = n + 2 ∨ a = n + 3 ∨ a = n ∨ a = n + 1) : n ≤ a := by
 rcases h with h | h | h | h | h <;> subst h
 · exact Nat.le_add_right ..
 · exact Nat.le_add_right ..
 · exact Nat.le_add_right ..
 · exact Nat.le_refl _
 · exact Nat.le_add_right ..
end
theorem IOK_zip {es : List Expr} {kk : Nat} {pp fp pos : Pos} {e1 e2 : Expr} {f g : FnD} (ok : C.OK) (h : EOK C k sc vars e1 f) (h' : EOK C k sc vars e2 g) (hx : sc.names.lookup ("zip" : Str) = some .globalImplicit) (en : nsIn C.K mainGlobals ("zip" : Str) = some none)
   (hst : ∀ env, starEach [e1, e2] env = [(false, eval e1 env), (false, eval e2 env)]) (hst' : ∀ env, starEach [e2] env = [(false, eval e2 env)]) : IOK C k sc vars (.Tuple es kk pp) (.Call (.Name "zip" fp) [e1, e2] [] pos) (fZip f g) := by
 constructor
 intro env A P W F vm own s σ σ' ds Q G Rm S R hf hQ
 unfold fZip at hf
 refine bs2 hf fun a σ1 q1 hf => ?_
 refine bs2 hf fun b σ2 q2 hf => ?_
 cases a <;> first | exact ns hf | (cases hf; done) | skip
 cases b <;> first | exact ns hf | (cases hf; done) | skip
 rename_i xs _ ys
 dsimp only at hf
 nomatch hf, hQ
 refine call_type ok G S hx en rfl dc dc ?_ (by rw [hst, hst']) (by rw [hst']; rfl)
 rw [hst]
 refine spliced_cons (h.go env A P W F vm own s σ _ _ _ G Rm S R q1 fun v P1 W1 F1 own1 s1 S1 T1 R1 r1 => ?_)
 refine spliced_cons (h'.go env A P1 W1 F1 vm own1 s1 _ _ _ _ G Rm S1 R1 q2 fun v' P2 W2 F2 own2 s2 S2 T2 R2 r2 => spliced_nil ?_)
 refine Xeeeaaa (Rep.mono T2.p _ r1) fun l1 o1 us q3 p1 p2 p3 => ?_; subst q3
 refine Xeeeaaa r2 fun l2 o2 vs q3 p4 p5 p6 => ?_; subst q3
 refine PySem.call_zip_2 (p2.list (S2.p _ _ p1)) (p5.list (S2.p _ _ p4)) fun h' hz hTI hTO hI1 hI2 hsz hk => ?_
 refine wpAny_pyIter_zip hz ?_
 refine Xeaa hI1 fun oi g1 g2 g3 => ?_
 refine Xeaa hI2 fun oj g4 g5 g6 => ?_
 generalize hn : s2.heap.objs.size = n at *
 have X : Five (n + 4) (n + 2) (n + 3) n (n + 1) := ⟨addN n 2 4 dc, addN n 3 4 dc, addN n 0 4 dc, addN n 1 4 dc, addN n 2 3 dc, addN n 2 0 dc, addN n 2 1 dc, addN n 3 0 dc, addN n 3 1 dc, addN n 0 1 dc⟩
 have w : ∀ a : Nat, n ≤ a → W2 a = none := fun a ha => geW S2 (by rw [hn]; exact ha)
 have gn : ∀ a : Nat, n ≤ a → s2.heap.get? a = none := fun a ha => ge_none (by rw [hn]; exact ha)
 refine iter_more (ia := fun (a : Nat) => a = n + 4 ∨ a = n + 2 ∨ a = n + 3 ∨ a = n ∨ a = n + 1) (W2 := five W2 n oi oj (pairO (.ref n) (.ref (n + 1))) (pairO .none .none) (zipO (n + 2) (n + 3) .none))
   (T1.trans T2) R2 (fun (a : Nat) o ea => ?_) (fun (a : Nat) ha => w a (ge5 ha))
   fun hT hR h1 h2 => hQ _ _ _ _ _ _ own2 _ (S2.moreW (tk := s2.toks) hk fun (a : Nat) o q => ?_) hT hR (zipIt X) ⟨oi, oj, l1, l2, o1, o2, us, vs, 0, 0, .none, .none, xs, ys, five4, five2, five3, five0, g2, g3, five1, g5, g6, p1, p2, by rw [List.drop_zero]; exact p3, p4, p5, by rw [List.drop_zero]; exact p6, rfl⟩ h1 h2
 · have hlt : a < n := by
     rcases Nat.lt_or_ge a n with h | h
     · exact h
     · exact nosome ((w a h).symm.trans ea)
   rw [five_lt hlt]; exact ea
 · exact five_inv q (fun e1 e2 => by subst e1 e2; exact .inr ⟨g1, gn _ (Nat.le_refl _)⟩) (fun e1 e2 => by subst e1 e2; exact .inr ⟨g4, gn _ (Nat.le_add_right ..)⟩) (fun e1 e2 => by subst e1 e2; exact .inr ⟨hTI, gn _ (Nat.le_add_right ..)⟩)
     (fun e1 e2 => by subst e1 e2; exact .inr ⟨hTO, gn _ (Nat.le_add_right ..)⟩) (fun e1 e2 => by subst e1 e2; exact .inr ⟨hz, gn _ (Nat.le_add_right ..)⟩) .inl
end
section
noncomputable def FnOK (C : Cx) (k : Nat) (fv : Value) (ds : List D) (d : D) : Prop :=
 ∀ (A : Around) (P W : Mp) (L : Addr) (m : Str → Option Value) (s : Shared) (vs : List Value) (Q : Value → Shared → Prop), Room k A → St C P W s → NsM W L m → Reps C P ds vs → Res C P W L Q d → wpAny C.M A (call fv vs) Q NoE s
theorem FnOK.le {k' : Nat} {fv : Value} {ds : List D} {d : D} (h : FnOK C k fv ds d) (hk : k ≤ k') : FnOK C k' fv ds d := fun A P W L m s vs Q R => h A P W L m s vs Q (R.le hk)
noncomputable def fCall (g : List D → Option D) (f : FnL) (σ : LS) : Option (D × LS) := (f σ).bind fun p => (g p.1).map fun d => (d, p.2)
structure Plain (es : List Expr) : Prop where
 p : ∀ env, (starEach es env).all (fun x => !x.1) = true
 c : ∀ env e r, es = e :: r → starEach es env = (false, eval e env) :: starEach r env
theorem Plain.any {es : List Expr} (h : Plain es) (env : Env) (pos : Pos) : (backTo pos (starEach es env)).any (·.1) = false := by
 have := h.p env
 unfold backTo
 rw [List.any_map]
 rw [List.all_eq_true] at this
 rw [List.any_eq_false]
 intro x hx
 have := this x hx
 simpa using this
theorem EOK_callT {T : String} {x : Str} {fp pos : Pos} {e : Expr} {es : List Expr} {g : List D → Option D} {f : FnL} (ok : C.OK) (hg : ∀ ds d, g ds = some d → FnOK C k (.type T) ds d) (h : LOK C k sc vars (e :: es) f)
   (hx : sc.names.lookup x = some .globalImplicit) (en : nsIn C.K mainGlobals x = some none) (hb : bootBuiltins x = some (.type T)) (hn : x ≠ "__name__") (hd : (x == ("__debug__" : Str)) = false) (hp : Plain (e :: es)) (hp' : Plain es) :
   EOK C k sc vars (.Call (.Name x fp) (e :: es) [] pos) (fCall g f) := by
 constructor
 intro env A P W F vm own s σ σ' d Q G Rm S R hf hQ
 unfold fCall at hf
 refine bs2 hf fun ds σ1 e1 hf => ?_
 refine ms1 hf fun dd e2 hf => ?_
 nomatch hf, hQ
 refine call_type ok G S hx en hb hn hd (h.go env pos A P W F vm own s σ _ ds _ G Rm S R e1 fun vs P1 W1 F1 own1 s1 S1 T1 R1 r1 => ?_) (hp.c env e es rfl) (hp'.any env pos)
 refine Xe R1.vs.nsM fun m n => ?_
 exact hg ds _ e2 A P1 W1 env.locals m s1 vs Q Rm S1 n r1 (Res.of R1.vs.locF R1 fun v P' W' F' own' s' S' T' R' r' => hQ v P' W' F' own' s' S' (T1.trans T') R' r')
theorem EOK_callB {T : String} {x : Str} {fp pos : Pos} {e : Expr} {es : List Expr} {g : List D → Option D} {f : FnL} (ok : C.OK) (hg : ∀ ds d, g ds = some d → FnOK C k (.builtin T) ds d) (h : LOK C k sc vars (e :: es) f)
   (hx : sc.names.lookup x = some .globalImplicit) (en : nsIn C.K mainGlobals x = some none) (hb : bootBuiltins x = some (.builtin T)) (hn : x ≠ "__name__") (hd : (x == ("__debug__" : Str)) = false) (hp : Plain (e :: es)) (hp' : Plain es) :
   EOK C k sc vars (.Call (.Name x fp) (e :: es) [] pos) (fCall g f) := by
 constructor
 intro env A P W F vm own s σ σ' d Q G Rm S R hf hQ
 unfold fCall at hf
 refine bs2 hf fun ds σ1 e1 hf => ?_
 refine ms1 hf fun dd e2 hf => ?_
 nomatch hf, hQ
 refine call_bi ok G S hx en hb hn hd (h.go env pos A P W F vm own s σ _ ds _ G Rm S R e1 fun vs P1 W1 F1 own1 s1 S1 T1 R1 r1 => ?_) (hp.c env e es rfl) (hp'.any env pos)
 refine Xe R1.vs.nsM fun m n => ?_
 exact hg ds _ e2 A P1 W1 env.locals m s1 vs Q Rm S1 n r1 (Res.of R1.vs.locF R1 fun v P' W' F' own' s' S' T' R' r' => hQ v P' W' F' own' s' S' (T1.trans T') R' r')
theorem EOK_callF {x : Str} {fp pos : Pos} {e : Expr} {es : List Expr} {fv : Value} {g : List D → Option D} {f : FnL} (ok : C.OK) (hg : ∀ ds d, g ds = some d → FnOK C k fv ds d) (h : LOK C k sc vars (e :: es) f)
   (hx : sc.names.lookup x = some .globalImplicit) (en : nsIn C.K mainGlobals x = some (some fv)) (hk : keepIn C.K fv = true) (hd : (x == ("__debug__" : Str)) = false) (hp : Plain (e :: es)) (hp' : Plain es) :
   EOK C k sc vars (.Call (.Name x fp) (e :: es) [] pos) (fCall g f) := by
 constructor
 intro env A P W F vm own s σ σ' d Q G Rm S R hf hQ
 unfold fCall at hf
 refine bs2 hf fun ds σ1 e1 hf => ?_
 refine ms1 hf fun dd e2 hf => ?_
 nomatch hf, hQ
 show wpAny C.M A (eval (.Name x fp) env >>= fun f => callWith pos f [] (backTo pos (starEach (e :: es) env)) (backToKw pos (keywordEach [] env))) Q NoE s
 refine wpAny_bind (Name_function_global G.kind ((G.kindOf x).trans hx) (loadGlobal_global (by rw [G.g]; exact ok.T.g.keeps S.keepH) (mg_of ok.X ok.T.g en) ?_) hd)
 refine callWith_K (K := C.K) (h₀ := C.H) (first := []) ok.X hk (h.go env pos A P W F vm own s σ _ ds _ G Rm S R e1 fun vs P1 W1 F1 own1 s1 S1 T1 R1 r1 => ⟨ok.X.keeps S1.keepH, ?_⟩) (hp.c env e es rfl) (hp'.any env pos)
 refine Xe R1.vs.nsM fun m n => ?_
 exact hg ds _ e2 A P1 W1 env.locals m s1 vs Q Rm S1 n r1 (Res.of R1.vs.locF R1 fun v P' W' F' own' s' S' T' R' r' => hQ v P' W' F' own' s' S' (T1.trans T') R' r')
structure BMeth (T : String) (name : Str) (id : String) : Prop where
 pa : PlainAttrs T
 slot : PySem.Slot T name id
 ty : typeOf (.builtin id) = pure (.type "method_descriptor")
noncomputable def typD : D → Option String
 | .str _ => some "str"
 | .list _ => some "list"
 | .dI _ => some "dict"
 | .dT _ => some "dict"
 | _ => none
theorem typD_is {d : D} {T : String} {v : Value} (h : typD d = some T) (S : St C P W s) (r : Rep C P d v) : s.TypeIs v T ∧ ∀ a, v = .ref a → ∃ ob, s.heap.get? a = some ob ∧ ob.dict = none := by
 cases d with
 | str x => obtain rfl := sinj h; refine Xe r fun t q1 => ?_; subst q1; exact ⟨typeIs_str _ _ _, fun a e => nomatch e⟩
 | list x =>
   obtain rfl := sinj h
   refine Xeeeaaa r fun a o vs q3 p q _ => ?_; subst q3
   haveI := (q.list (S.p _ _ p)).typeIs
   refine Xe q fun n q1 => ?_; subst q1
   exact ⟨this, fun b e => by obtain rfl := Value.ref.inj e; exact ⟨_, S.p _ _ p, rfl⟩⟩
 | dI x =>
   obtain rfl := sinj h
   refine Xeeeaaa r fun a o kvs q3 p q _ => ?_; subst q3
   refine Xeea q fun es ep hx _ => ?_
   exact ⟨⟨o, S.p _ _ p, hx.1⟩, fun b e => by obtain rfl := Value.ref.inj e; exact ⟨_, S.p _ _ p, hx.2.1⟩⟩
 | dT x =>
   obtain rfl := sinj h
   refine Xeeaaa r fun a o q2 p q _ => ?_; subst q2
   refine Xeeea q fun xs dE ep hx _ => ?_
   exact ⟨⟨_, S.p _ _ p, hx.1⟩, fun b e => by obtain rfl := Value.ref.inj e; exact ⟨_, S.p _ _ p, hx.2.1⟩⟩
 | _ => exact nosome h
noncomputable def fMeth (T : String) (g : D → List D → Option D) (f : FnD) (h : FnL) (σ : LS) : Option (D × LS) :=
 (f σ).bind fun p => if typD p.1 = some T then (h p.2).bind fun q => (g p.1 q.1).map fun d => (d, q.2) else none
theorem callWith_args {id : String} {ov : Value} {es : List Expr} {pos : Pos} {E : Value → Shared → Prop} {Q : Value → Shared → Prop} (hp : Plain es) (hp' : ∀ e r, es = e :: r → Plain r)
   (h : wpAny C.M A (spliced (backTo pos (starEach es env))) (fun vs s₁ => wpAny C.M A (call (.builtin id) (ov :: vs)) Q E s₁) E s) : wpAny C.M A (callWith pos (.builtin id) [ov] (backTo pos (starEach es env)) []) Q E s := by
 cases es with
 | nil =>
   refine callWith_method0 ?_
   haveI : spliced (backTo pos (starEach [] env)) = pure [] := rfl
   rw [this] at h
   exact fun Γ p hΓ => (show wpAny C.M A (call (.builtin id) [ov]) Q E s from h Γ p hΓ) Γ p hΓ
 | cons e r => exact callWith_method1 (first := [ov]) h (hp.c env e r rfl) ((hp' e r rfl).any env pos)
theorem kwN (pos : Pos) (env : Env) : backToKw pos (keywordEach [] env) = [] := rfl
theorem EOK_meth {T id : String} {o : Expr} {name : Str} {apos pos : Pos} {es : List Expr} {g : D → List D → Option D} {f : FnD} {h : FnL} (X : BMeth T name id)
   (hg : ∀ d0 ds d, g d0 ds = some d → FnOK C k (.builtin id) (d0 :: ds) d) (ho : EOK C k sc vars o f) (ha : LOK C k sc vars es h) (hp : Plain es) (hp' : ∀ e r, es = e :: r → Plain r) (hlen : es.length < 29)
   (hbase : ∀ env, attributeBase o name env (eval o env) = eval o env) (hline : (apos.endLine == pos.line) = true) : EOK C k sc vars (.Call (.Attribute o name apos) es [] pos) (fMeth T g f h) := by
 constructor
 intro env A P W F vm own s σ σ' d Q G Rm S R hf hQ
 unfold fMeth at hf
 refine bs2 hf fun d0 σ1 e1 hf => ?_
 dsimp only at hf
 split at hf
 case isFalse => exact ns hf
 rename_i hT
 refine bs2 hf fun ds σ2 e2 hf => ?_
 refine ms1 hf fun dd e3 hf => ?_
 nomatch hf, hQ
 refine wpAny_Call_method (hbase env) ?_ hline X.pa X.slot X.ty (ho.go env A P W F vm own s σ σ1 d0 _ G Rm S R e1 fun v P1 W1 F1 own1 s1 S1 T1 R1 r1 => ?_)
 · haveI := hp.any env pos
   haveI h1 : (backTo pos (starEach es env)).all (fun x => !x.1) = true := by
     rw [List.all_eq_true]
     rw [List.any_eq_false] at this
     intro x hx
     simpa using this x hx
   rw [h1]
   simp [kwN]
   lia
 · refine Xa (typD_is hT S1 r1) fun t1 t2 => ?_
   refine ⟨t1, t2, callWith_args hp hp' (ha.go env pos A P1 W1 F1 vm own1 s1 σ1 _ ds _ G Rm S1 R1 e2 fun vs P2 W2 F2 own2 s2 S2 T2 R2 r2 => ?_)⟩
   refine Xe R2.vs.nsM fun m n => ?_
   exact hg d0 ds _ e3 A P2 W2 env.locals m s2 (v :: vs) Q Rm S2 n ⟨v, vs, rfl, Rep.mono T2.p d0 r1, r2⟩ (Res.of R2.vs.locF R2 fun v P' W' F' own' s' S' T' R' r' => hQ v P' W' F' own' s' S' (T1.trans (T2.trans T')) R' r')
end
section
noncomputable def intsOf : List D → Option (List Int)
 | [] => some []
 | .int x :: r => (intsOf r).map (x :: ·)
 | _ => none
theorem reps_ints : ∀ {xs : List D} {ys : List Int} {vs : List Value}, intsOf xs = some ys → Reps C P xs vs → IntsAre vs ys
 | [], _, _, e, h => by cases e; rw [show _ = [] from h]; exact .nil
 | x :: xs, _, _, e, ⟨v, r, e1, e2, e3⟩ => by
   cases x <;> first | (simp [intsOf] at e; done) | skip
   rename_i x
   cases hx : intsOf xs with
   | none => simp [intsOf, hx] at e
   | some zs =>
     simp [intsOf, hx] at e
     subst e e1
     obtain ⟨t, rfl⟩ := e2
     exact .cons x t (reps_ints hx e3)
theorem reps_strvals {l : List (Str × Tok)} : Reps C P ((l.map (·.1)).map .str) (strValues l) := by
 induction l with
 | nil => rfl
 | cons p r ih => exact Ieeaa _ _ rfl ⟨p.2, rfl⟩ ih
noncomputable def on1 (g : D → Option D) : List D → Option D
 | [x] => g x
 | _ => none
theorem on1_inv {g : D → Option D} {ds : List D} {d : D} (h : on1 g ds = some d) : ∃ x, g x = some d ∧ ds = [x] := by
 cases ds with
 | nil => cases h
 | cons x r => cases r with
   | nil => exact ⟨x, h, rfl⟩
   | cons y r => cases h
noncomputable def on2 (g : D → D → Option D) : List D → Option D
 | x :: r => on1 (g x) r
 | _ => none
theorem on2_inv {g : D → D → Option D} {ds : List D} {d : D} (h : on2 g ds = some d) : ∃ x y, g x y = some d ∧ ds = [x, y] := by
 cases ds with
 | nil => cases h
 | cons x r => refine Xea (on1_inv h) fun y e q => ?_; subst q; exact ⟨x, y, e, rfl⟩
noncomputable def gLen : List D → Option D := on1 fun x => match x with
 | .list xs => if xs.length ≤ bigN then some (.int xs.length) else none
 | .tup xs => if xs.length ≤ bigN then some (.int xs.length) else none
 | _ => none
theorem len_ok {ds : List D} {d : D} (e : gLen ds = some d) : FnOK C k (.builtin "len") ds d := by
 intro A P W L m s vs Q Rm S n r h
 refine Xea (on1_inv e) fun x e q => ?_; subst q
 cases x with
 | list xs =>
   refine Xa (ifI e) fun hl q => ?_; subst q
   refine Xeeaa r fun v _ q2 w1 r2 => ?_; subst q2; refine Xeeeaaa w1 fun l o us q3 p q r1 => ?_; subst q3
   rw [show _ = [] from r2]
   have hsz : us.toArray.size = xs.length := by rw [List.size_toArray, r1.length]
   refine len_list (q.list (S.p _ _ p)) (by rw [hsz]; unfold bigN at hl; omega) (h.same (S.toks _) ⟨s.toks + 1, by rw [hsz]⟩)
 | tup xs =>
   refine Xa (ifI e) fun hl q => ?_; subst q
   refine Xeeaa r fun v _ q2 w2 r2 => ?_; subst q2; refine Xeeeaaa w2 fun l o us q3 p q r1 => ?_; subst q3
   rw [show _ = [] from r2]
   have hsz : us.toArray.size = xs.length := by rw [List.size_toArray, r1.length]
   refine len_tuple (q.tup (S.p _ _ p)) (by rw [hsz]; unfold bigN at hl; omega) (h.same (S.toks _) ⟨s.toks + 1, by rw [hsz]⟩)
 | _ => cases e
noncomputable def gIsTup : List D → Option D := on2 fun x y => (tyD y).bind fun n => match x with
 | .tup _ => if n = "tuple" then some (.bool true) else none
 | .int _ => if n = "tuple" then some (.bool false) else none
 | _ => none
theorem isTup_ok {ds : List D} {d : D} (e : gIsTup ds = some d) : FnOK C k (.builtin "isinstance") ds d := by
 intro A P W L m s vs Q Rm S n r h
 refine Xeea (on2_inv e) fun x y e q => ?_; subst q
 refine bs1 e fun n0 e1 e => ?_
 obtain rfl := tyD_eq e1
 cases x with
 | tup xs =>
   refine Xa (ifI e) fun hn q => ?_; subst q
   subst hn
   refine Xeeaaeeaa r fun v _ q2 w3 w _ q6 q7 r2 => ?_; subst q2; subst q6; subst q7; refine Xeeeaaa w3 fun l o us q3 p q r1 => ?_; subst q3
   rw [show _ = [] from r2]
   refine Xe q fun n' q1 => ?_; subst q1
   exact PySem.IsiPair.tuple_tuple (S.p _ _ p) rfl (h.same S rfl)
 | int i =>
   refine Xa (ifI e) fun hn q => ?_; subst q
   subst hn
   refine Xeeaaeeaa r fun v _ q2 w4 w _ q6 q7 r2 => ?_; subst q2; subst q6; subst q7; refine Xe w4 fun t q1 => ?_; subst q1
   rw [show _ = [] from r2]
   exact PySem.IsiPair.int_tuple (h.same (S.toks _) rfl)
 | _ => cases e
noncomputable def gInt : List D → Option D := on1 fun d => (strD d).bind fun x => if x.length ≤ 640 then (PySem.intText? x).map .int else none
theorem int_ok {ds : List D} {d : D} (e : gInt ds = some d) : FnOK C k (.type "int") ds d := by
 intro A P W L m s vs Q Rm S n r h
 refine Xea (on1_inv e) fun x e q => ?_; subst q
 refine bs1 e fun x e1 e => ?_
 obtain rfl := strD_eq e1
 refine Xa (ifG e) fun hl e => ?_
 refine ms1 e fun i hi e => ?_
 cases e
 refine Xeeaa r fun v _ q2 w5 r2 => ?_; subst q2; refine Xe w5 fun t q1 => ?_; subst q1
 rw [show _ = [] from r2]
 exact KIN.call_text hi hl (h.same (S.toks _) ⟨_, rfl⟩)
theorem okI_log {i : Int} (hi : okI i) : i.natAbs.log2 < 1920 := by
 have : i.natAbs.log2 < 64 := by
   rcases Nat.eq_zero_or_pos i.natAbs with h0 | hp
   · rw [h0]; decide
   · exact (Nat.log2_lt (Nat.ne_of_gt hp)).mpr (okI_nat hi)
 omega
noncomputable def gStr : List D → Option D := on1 fun d => (intD d).bind fun i => if okI i then some (.str (toString i : String)) else none
theorem str_ok {ds : List D} {d : D} (e : gStr ds = some d) : FnOK C k (.type "str") ds d := by
 intro A P W L m s vs Q Rm S n r h
 refine Xea (on1_inv e) fun x e q => ?_; subst q
 refine bs1 e fun x e1 e => ?_
 obtain rfl := intD_eq e1
 refine Xa (ifI e) fun hi q => ?_; subst q
 refine Xeeaa r fun v _ q2 w6 r2 => ?_; subst q2; refine Xe w6 fun t q1 => ?_; subst q1
 rw [show _ = [] from r2]
 exact PySem.P.str_of_int (okI_log hi) (h.same (S.toks _) ⟨_, rfl⟩)
noncomputable def gMax : List D → Option D := on1 fun d => (lstD d).bind fun xs => (intsOf xs).bind fun ys => ys.max?.map .int
theorem max_ok {ds : List D} {d : D} (e : gMax ds = some d) : FnOK C k (.builtin "max") ds d := by
 intro A P W L m s vs Q Rm S n r h
 refine Xea (on1_inv e) fun x e q => ?_; subst q
 refine bs1 e fun xs e1 e => ?_
 obtain rfl := lstD_eq e1
 · refine bs1 e fun ys hy e => ?_
   refine ms1 e fun M hM e => ?_
   cases e
   refine Xeeaa r fun v _ q2 w7 r2 => ?_; subst q2; refine Xeeeaaa w7 fun l o us q3 p q r1 => ?_; subst q3
   rw [show _ = [] from r2]
   refine Xa (fr_of S n) fun Fm N => ?_
   have hm := List.max?_eq_some_iff.mp hM
   refine max_list_N Rm.1 Fm N (q.list (S.p _ _ p)) (reps_ints hy r1) (List.length_pos_of_mem hm.1) fun h' M' t tk F' N' h1 h2 => ?_
   refine Xeaa (S.back (tk := tk) (more := []) n F' N') fun W' g1 g2 _ => ?_
   have e1 : M' = M := Int.le_antisymm (hm.2 _ h1) (h2 _ hm.1)
   exact h _ P W' _ (.refl _) g2 g1 ⟨t, by rw [e1]⟩
noncomputable def gSum : List D → Option D := on1 fun d => (lstD d).bind fun xs => (intsOf xs).map fun ys => .int ys.sum
theorem sum_ok {ds : List D} {d : D} (e : gSum ds = some d) : FnOK C k (.builtin "sum") ds d := by
 intro A P W L m s vs Q Rm S n r h
 refine Xea (on1_inv e) fun x e q => ?_; subst q
 refine bs1 e fun xs e1 e => ?_
 obtain rfl := lstD_eq e1
 · refine ms1 e fun ys hy e => ?_
   cases e
   refine Xeeaa r fun v _ q2 w8 r2 => ?_; subst q2; refine Xeeeaaa w8 fun l o us q3 p q r1 => ?_; subst q3
   rw [show _ = [] from r2]
   haveI hi := reps_ints hy r1
   refine Xe hi.allInts.items fun zs hz => ?_
   haveI hl := q.list (S.p _ _ p)
   rw [hz] at hl
   refine sum_intListG Rm.1 hl fun h' tk t' hk => ?_
   refine h.same (S.ext (tk := tk) hk) ⟨t', ?_⟩
   haveI e1 : numsOf us = ys := hi.numsOf
   haveI e2 := nums_intItems zs
   rw [← hz] at e2
   rw [preSum_eq, List.take_of_length_le (by simp), ← e2]
   rw [show numsOf us.toArray.toList = ys from e1]
noncomputable def gSplit (d : D) : List D → Option D := on1 fun e => (strD d).bind fun x => (strD e).bind fun y => if y.length ≠ 0 ∧ x.length ≤ bigN then some (.list ((Txt.split x y).map .str)) else none
theorem split_ok {d0 : D} {ds : List D} {d : D} (e : gSplit d0 ds = some d) : FnOK C k (.builtin "str.split") (d0 :: ds) d := by
 intro A P W L m s vs Q Rm S n r h
 refine Xea (on1_inv e) fun x e q => ?_; subst q
 refine bs1 e fun x e1 e => ?_
 obtain rfl := strD_eq e1
 refine bs1 e fun y e1 e => ?_
 obtain rfl := strD_eq e1
 · refine Xa (ifI e) fun hc q => ?_; subst q
   refine Xeeaaeeaa r fun v _ q2 w9 w _ q6 w10 r2 => ?_; subst q2; subst q6; refine Xe w9 fun t q1 => ?_; subst q1; refine Xe w10 fun t' q1 => ?_; subst q1
   rw [show _ = [] from r2]
   refine Xa (fr_of S n) fun Fm N => ?_
   refine splitN1 Fm N (by simpa using hc.1) (fun l h' tk hl F' N' => ?_) (by rw [sizeLine_eq]; have := hc.2; unfold bigN at this; lia)
   refine Xeaa (S.back1 (tk := tk) n F' N' (size_none _)) fun W' g1 g2 g3 => ?_
   exact h _ _ _ _ g2 g3 g1 ⟨_, _, strValues l, rfl, Mp.upd_self .., ⟨0, rfl⟩, by rw [← hl]; exact reps_strvals⟩
noncomputable def gJoin (d : D) : List D → Option D := on1 fun e => (strD d).bind fun x => (lstD e).bind fun ys => (strsOf ys).bind fun zs => if (zs.map (·.length)).sum + zs.length * x.length ≤ 1000000 then some (.str (Txt.join x zs)) else none
theorem join_ok {d0 : D} {ds : List D} {d : D} (e : gJoin d0 ds = some d) : FnOK C k (.builtin "str.join") (d0 :: ds) d := by
 intro A P W L m s vs Q Rm S n r h
 refine Xea (on1_inv e) fun x e q => ?_; subst q
 refine bs1 e fun x e1 e => ?_
 obtain rfl := strD_eq e1
 refine bs1 e fun ys e1 e => ?_
 obtain rfl := lstD_eq e1
 · refine bs1 e fun zs hz e => ?_
   refine Xa (ifI e) fun hc q => ?_; subst q
   refine Xeeaaeeaa r fun v _ q2 w11 w _ q6 w12 r2 => ?_; subst q2; subst q6; refine Xe w11 fun t q1 => ?_; subst q1; refine Xeeeaaa w12 fun l o us q3 p q r1 => ?_; subst q3
   rw [show _ = [] from r2]
   exact join_list (q.list (S.p _ _ p)) (reps_strs hz r1) (by lia) fun t' tk => h.same (S.toks _) ⟨t', rfl⟩
noncomputable def gLower (d : D) : List D → Option D
 | [] => (strD d).bind fun x => if x.length ≤ bigN then some (.str (Txt.lower x)) else none
 | _ => none
theorem lower_ok {d0 : D} {ds : List D} {d : D} (e : gLower d0 ds = some d) : FnOK C k (.builtin "str.lower") (d0 :: ds) d := by
 intro A P W L m s vs Q Rm S n r h
 cases ds with
 | nil =>
   refine bs1 e fun x e1 e => ?_
   obtain rfl := strD_eq e1
   refine Xa (ifI e) fun hc q => ?_; subst q
   refine Xeeaa r fun v _ q2 w13 r2 => ?_; subst q2; refine Xe w13 fun t q1 => ?_; subst q1
   rw [show _ = [] from r2]
   exact SCL.lower (by unfold bigN at hc; lia) fun _ => h.same (S.toks _) ⟨_, rfl⟩
 | cons a b => cases e
end
theorem cellsFrom_mem : ∀ (l : List (Str × NameKind)) (n : Nat) (acc : List (Str × Addr)) {x : Str} {c : Addr}, (x, c) ∈ cellsFrom n l acc → (x, c) ∈ acc ∨ (x, NameKind.cell) ∈ l
 | [], _, _, _, _, h => .inl h
 | (y, kd) :: r, n, acc, x, c, h => by
   unfold cellsFrom at h
   by_cases hk : (kd == NameKind.cell) = true
   · rw [if_pos hk] at h
     rcases cellsFrom_mem r _ _ h with h | h
     · rcases List.mem_cons.mp h with e | h
       · cases e; exact .inr (by rw [eq_of_beq hk]; exact .head _)
       · exact .inl h
     · exact .inr (.tail _ h)
   · rw [if_neg hk] at h
     rcases cellsFrom_mem r _ _ h with h | h
     · exact .inl h
     · exact .inr (.tail _ h)
theorem cellsFrom_has : ∀ (l : List (Str × NameKind)) (n : Nat) (acc : List (Str × Addr)) {x : Str}, ((x, NameKind.cell) ∈ l ∨ ∃ c, (x, c) ∈ acc) → ∃ c, (x, c) ∈ cellsFrom n l acc
 | [], _, _, _, h => by
   rcases h with h | h
   · cases h
   · exact h
 | (y, kd) :: r, n, acc, x, h => by
   unfold cellsFrom
   by_cases hk : (kd == NameKind.cell) = true
   · rw [if_pos hk]
     refine cellsFrom_has r _ _ ?_
     rcases h with h | ⟨c, h⟩
     · rcases List.mem_cons.mp h with e | h
       · cases e; exact .inr ⟨n, .head _⟩
       · exact .inl h
     · exact .inr ⟨c, .tail _ h⟩
   · rw [if_neg hk]
     refine cellsFrom_has r _ _ ?_
     rcases h with h | h
     · rcases List.mem_cons.mp h with e | h
       · cases e; exact absurd rfl hk
       · exact .inl h
     · exact .inr h
theorem lookup_of_mem_key {β : Type} : ∀ {l : List (Str × β)} {x : Str} {c : β}, (x, c) ∈ l → ∃ c', l.lookup x = some c'
 | (y, b) :: r, x, c, h => by
   rw [List.lookup_cons]
   cases hb : x == y with
   | true => exact ⟨b, rfl⟩
   | false =>
     rcases List.mem_cons.mp h with e | h
     · cases e; simp at hb
     · exact lookup_of_mem_key h
theorem bindL_eq {kindOf : Str → Option NameKind} {x : Str} (hx : kindOf x = some .local) : ∀ (l : List (Str × Value)) (m : Str → Option Value), (l.map (·.1)).Nodup → bindL kindOf l m x = (match l.lookup x with | some v => some v | none => m x)
 | [], m, _ => rfl
 | (y, v) :: r, m, hn => by
   rw [List.map_cons, List.nodup_cons] at hn
   unfold bindL
   rw [bindL_eq hx r _ hn.2, List.lookup_cons]
   by_cases e : x = y
   · subst e
     have h0 : r.lookup x = none := by
       cases q : r.lookup x with
       | none => rfl
       | some c => exact absurd (List.mem_map_of_mem (f := (·.1)) (PySem.mem_of_lookup q)) hn.1
     rw [h0, if_pos hx]; simp
   · haveI hb : (x == y) = false := by simpa using e
     rw [hb]
     dsimp only
     cases r.lookup x with
     | some c => rfl
     | none =>
       dsimp only
       split
       · simp [e]
       · rfl
theorem bindC_eq {kindOf : Str → Option NameKind} {x : Str} (hx : kindOf x ≠ some .local) : ∀ (l : List (Str × Value)) (m : Str → Option Value), (l.map (·.1)).Nodup → bindC kindOf l m x = (match l.lookup x with | some v => some v | none => m x)
 | [], m, _ => rfl
 | (y, v) :: r, m, hn => by
   rw [List.map_cons, List.nodup_cons] at hn
   unfold bindC
   rw [bindC_eq hx r _ hn.2, List.lookup_cons]
   by_cases e : x = y
   · subst e
     have h0 : r.lookup x = none := by
       cases q : r.lookup x with
       | none => rfl
       | some c => exact absurd (List.mem_map_of_mem (f := (·.1)) (PySem.mem_of_lookup q)) hn.1
     rw [h0, if_neg hx]; simp
   · haveI hb : (x == y) = false := by simpa using e
     rw [hb]
     dsimp only
     cases r.lookup x with
     | some c => rfl
     | none =>
       dsimp only
       split
       · rfl
       · simp [e]
theorem lookup_zip {names : List Str} (hn : names.Nodup) : ∀ {vs : List Value} {i : Nat} {x : Str} {v : Value}, names[i]? = some x → vs[i]? = some v → (names.zip vs).lookup x = some v := by
 induction names with
 | nil => intro vs i x v h; simp at h
 | cons y r ih =>
   intro vs i x v h g
   rw [List.nodup_cons] at hn
   cases vs with
   | nil => simp at g
   | cons u us =>
     rw [List.zip_cons_cons, List.lookup_cons]
     cases i with
     | zero => simp at h g; subst h g; simp
     | succ i =>
       simp at h g
       have : x ≠ y := by rintro rfl; exact hn.1 (List.mem_of_getElem? h)
       rw [show (x == y) = false by simpa using this]
       exact ih hn.2 h g
section
structure ScOK (sc : Scope) : Prop where
 k : sc.kind = .function
 co : sc.isCoroutine = false
 gen : sc.isGenerator = false
 nofree : ∀ x ∈ sc.names, x.2 ≠ .free
 cell : ∀ x ∈ sc.names, x.2 = .cell → sc.names.lookup x.1 = some .cell
structure DefAt (C : Cx) (fa : Addr) (fd : FuncData) (body : List Stmt) : Prop where
 at' : ∃ oc od osl, C.K.lookup fa = some ⟨oc, od, .func fd, osl⟩
 code : codeIn C.K fd.code fd.qualname = true
 body : fd.body = .stmts body
 glob : fd.globals = mainGlobals
 bi : fd.builtins = builtinsNs
 clo : fd.closure = []
 sc : ScOK fd.scope
theorem enter_def {fa : Addr} {fd : FuncData} {body : List Stmt} {names : List Str} {args : Args} {vs : List Value} {R : Result → Shared → Prop} (ok : C.OK) (X : DefAt C fa fd body) (hb : BindsTo s fd args (names.zip vs)) (hlen : names.length = vs.length)
   (hk : ∀ x ∈ names, fd.scope.names.lookup x = some .local ∨ fd.scope.names.lookup x = some .cell) (hnd : names.Nodup) (Rm : Room (k + 1) A) (S : St C P W s)
   (h : ∀ env W' F s', EnvG fd.scope env → env.func.isSome = true → Room k (A.deeper env) → St C P W' s' → Vars env W' F (fun x => (names.zip vs).lookup x) → (∀ a o, W a = some o → W' a = some o ∧ ¬ F a) →
     wpAny C.M (A.deeper env) (execs body env) (fun f s' => R (.ok (.ret (match f with | .ret v => v | _ => .none))) s') NoE s') :
   codeAny C.M A (.call (.ref fa) args) R s := by
 refine Xeee X.at' fun oc od osl hat => ?_
 haveI hf := ok.X.keeps S.keepH _ _ hat
 refine codeAny_call_function (by have := Rm.2.1; omega) hf rfl X.sc.co X.sc.gen X.body (codeRec_of (ok.X.keeps S.keepH) X.code) (hb _ _ _ _ ?_)
 rw [X.clo]
 have hzip : ∀ y ∈ names.zip vs, y.1 ∈ names := fun y hy => (List.of_mem_zip hy).1
 have hzn : ((names.zip vs).map (·.1)).Nodup := by
   have : (names.zip vs).map (·.1) = names := by
     rw [List.map_fst_zip]; omega
   rw [this]; exact hnd
 refine wpAny_newFunctionEnv_cells X.sc.k (fun y hy => ?_) fun env he s' x => ?_
 · rcases hk y.1 (hzip y hy) with h | h
   · exact .inl h
   · refine .inr ⟨h, ?_⟩
     refine Xe (cellsFrom_has fd.scope.names (s.heap.objs.size + 1) [] (.inl (PySem.mem_of_lookup h))) fun c hc => ?_
     refine Xe (lookup_of_mem_key hc) fun c' hc' => ?_
     rw [hc']; rfl
 refine Xee x.toInCall.same fun h' tk q2 => ?_; subst q2
 have hkeep := x.toInCall.keep
 refine ⟨(ok.T.nolimit.keeps S.keepH).keeps hkeep, codeAny_func ?_⟩
 refine wpAny_mono (E := NoE) ?_ (fun _ _ h => h) (fun _ _ h => h.elim)
 have e1 : env.scope = fd.scope := by rw [he]; rfl
 have e2 : env.globals = mainGlobals := by rw [he]; exact X.glob
 have e3 : env.builtins = builtinsNs := by rw [he]; exact X.bi
 have e4 : env.func.isSome = true := by rw [he]; rfl
 have e5 : env.cells = cellsFrom (s.heap.objs.size + 1) fd.scope.names [] := by rw [he]; rfl
 have e6 : ∀ y, env.kindOf y = fd.scope.names.lookup y := fun y => by unfold Env.kindOf; rw [e1]
 have isCell : ∀ y c, env.cells.lookup y = some c → fd.scope.names.lookup y = some .cell := fun y c hc => by
   rw [e5] at hc
   rcases cellsFrom_mem _ _ _ (PySem.mem_of_lookup hc) with h | h
   · cases h
   · exact X.sc.cell _ h rfl
 have cget : ∀ y c, env.cells.lookup y = some c → ∃ o, h'.get? c = some o ∧ o.data = .cell (bindC env.kindOf (names.zip vs) (fun _ => none) y) := fun y c hc => x.cell y c hc
 have cab : ∀ y c, env.cells.lookup y = some c → env.locals < c := fun y c hc => x.above y c (PySem.mem_of_lookup hc)
 have hfresh : s.heap.objs.size ≤ env.locals := x.toInCall.fresh
 refine Xeeeaaa x.toInCall.ns fun oL es ep l1 l2 l3 l4 => ?_
 refine h env (fun a => open Classical in if a = env.locals ∨ ∃ y, env.cells.lookup y = some a then h'.get? a else W a) (fun a => a = env.locals ∨ ∃ y, env.cells.lookup y = some a) _ ⟨e1, X.sc.k, e2, e3⟩ e4
   ⟨Rm.1, rm_d Rm.2.1, rm_u Rm.2.2⟩ ⟨S.gens, S.drawn, S.os, S.base, fun a o e => hkeep a o (S.p a o e), fun a o e => ?_⟩ ?_ (fun a o e => ?_)
 · split at e
   · rename_i hc
     refine ⟨e, geP S ?_⟩
     rcases hc with rfl | ⟨y, hy⟩
     · exact hfresh
     · exact Nat.le_of_lt (Nat.lt_of_le_of_lt hfresh (cab y a hy))
   · exact ⟨hkeep a o (S.w a o e).1, (S.w a o e).2⟩
 · refine ⟨⟨oL, es, ep, ?_, l2, l3, fun y hy => ?_⟩, .inl rfl, fun y c hc => ?_, fun _ y c hc => .inr ⟨y, hc⟩, fun y c hc => ?_, fun y hy => ?_, fun y z c hy hz => ?_⟩
   · rw [if_pos (.inl rfl)]; exact l1
   · rw [l4 y, bindL_eq hy _ _ hzn]
     cases (names.zip vs).lookup y <;> rfl
   · refine Xea (cget y c hc) fun o h1 h2 => ?_
     refine Iea o ?_ ?_
     · rw [if_pos (.inr ⟨y, hc⟩)]; exact h1
     · rw [h2, bindC_eq (by rw [e6, isCell y c hc]; decide) _ _ hzn]
       cases (names.zip vs).lookup y <;> rfl
   · rw [e6, isCell y c hc]; decide
   · rw [e6] at hy
     rcases hy with hy | hy
     · rw [e5]
       refine Xe (cellsFrom_has fd.scope.names (s.heap.objs.size + 1) [] (.inl (PySem.mem_of_lookup hy))) fun c hc => ?_
       exact lookup_of_mem_key hc
     · exact absurd rfl (X.sc.nofree _ (PySem.mem_of_lookup hy))
   · exact PySem.name_of_addr x.apart (PySem.mem_of_lookup hy) (PySem.mem_of_lookup hz)
 · have hlt : a < s.heap.objs.size := Heap.lt_size (S.w a o e).1
   have hn : ¬ (a = env.locals ∨ ∃ y, env.cells.lookup y = some a) := by
     rintro (rfl | ⟨y, hy⟩)
     · exact absurd hlt (Nat.not_lt.mpr hfresh)
     · exact absurd hlt (Nat.not_lt.mpr (Nat.le_of_lt (Nat.lt_of_le_of_lt hfresh (cab y a hy))))
   refine ⟨?_, hn⟩
   rw [if_neg hn]; exact e
end
section
noncomputable abbrev Cx.at (C : Cx) (b : Addr) : Cx := { C with b0 := b }
theorem Rep.b0 {b : Addr} (d : D) {v : Value} : Rep C P d v ↔ Rep (C.at b) P d v := .of_eq kr
theorem Reps.b0 {b : Addr} (xs : List D) {vs : List Value} : Reps C P xs vs ↔ Reps (C.at b) P xs vs := .of_eq kr
theorem ObjR.b0 {b : Addr} {sl : Slot} {o : Obj} : ObjR C P sl o ↔ ObjR (C.at b) P sl o := .of_eq kr
theorem ValR.b0 {b c : Addr} {sl : Slot} {v : Value} : ValR C P c sl v ↔ ValR (C.at b) P c sl v := by cases sl <;> exact Iff.rfl
theorem St.b0 {b : Addr} : St C P W s ↔ St (C.at b) P W s := ⟨fun S => ⟨S.gens, S.drawn, S.os, S.base, S.p, S.w⟩, fun S => ⟨S.gens, S.drawn, S.os, S.base, S.p, S.w⟩⟩
theorem Cx.OK.b0 (h : C.OK) (b : Addr) : (C.at b).OK := ⟨h.X, h.T⟩
theorem Reps.vals {names rest : List Str} {ds : List D} {vs : List Value} (hnd : names.Nodup) (hd : Reps C P ds vs) (hl : names.length = vs.length) (i : Nat) (x : Str) (hx : (names ++ rest)[i]? = some x) {b : Addr} {W : Mp} {F : Addr → Prop} :
   SlotR C P W F ((ds.map Slot.val ++ List.replicate rest.length Slot.non).getD i Slot.non) ((names.zip vs).lookup x) b := by
 haveI hlen := hd.length
 by_cases hi : i < names.length
 · have e1 : (ds.map Slot.val ++ List.replicate rest.length Slot.non).getD i .non = .val (ds[i]'(by omega)) := by
     rw [List.getD, List.getElem?_append_left (by rw [List.length_map]; omega), List.getElem?_map, List.getElem?_eq_getElem (by omega)]; rfl
   rw [e1]
   rw [List.getElem?_append_left hi] at hx
   refine Xea (hd.get i (List.getElem?_eq_getElem (by omega))) fun v g1 g2 => ?_
   exact Iea v (lookup_zip hnd hx g1) g2
 · have e1 : (ds.map Slot.val ++ List.replicate rest.length Slot.non).getD i .non = .non := by
     rw [List.getD, List.getElem?_append_right (by rw [List.length_map]; omega)]
     cases q : (List.replicate rest.length Slot.non)[i - (ds.map Slot.val).length]? with
     | none => rfl
     | some y => exact (List.mem_replicate.mp (List.mem_of_getElem? q)).2
   rw [e1]; trivial
theorem noOwn {ds : List D} {n i : Nat} : ((ds.map Slot.val ++ List.replicate n Slot.non).getD i .non).own = false := by
 cases q : (ds.map Slot.val ++ List.replicate n Slot.non)[i]? with
 | none => rw [List.getD, q]; rfl
 | some y =>
   rw [List.getD, q]
   rcases List.mem_append.mp (List.mem_of_getElem? q) with h | h
   · refine Xea (List.mem_map.mp h) fun d _ q2 => ?_; subst q2; rfl
   · rw [(List.mem_replicate.mp h).2]; rfl
noncomputable def retD : Fl → Option D
 | .ret d => some d
 | .next => some .none
 | _ => none
noncomputable def flV (f : Flow) : Value := match f with | .ret v => v | _ => .none
theorem retD_rep {fl : Fl} {d : D} (h : retD fl = some d) {f : Flow} (r : FlR C P fl f) : Rep C P d (flV f) := by
 cases fl <;> cases h
 · rw [show f = _ from r]; rfl
 · obtain ⟨v, rfl, r⟩ := r; exact r
theorem fn_ok {fa : Addr} {fd : FuncData} {body : List Stmt} {names rest : List Str} {f : FnF} {dv : List Value} {dd : List D} (ok : C.OK) (X : DefAt C fa fd body)
   (hb : ∀ s (vs : List Value), C.K.In s.heap → vs.length + dv.length = names.length → BindsTo s fd ⟨vs, []⟩ (names.zip (vs ++ dv))) (hdv : ∀ P, Reps C P dd dv)
   (hk : ∀ x ∈ names, fd.scope.names.lookup x = some .local ∨ fd.scope.names.lookup x = some .cell) (hnd : (names ++ rest).Nodup) (hB : BOK C k fd.scope (names ++ rest) body f) {ds : List D} {d : D} (hl : ds.length + dd.length = names.length)
   (hf : ∃ fl σ', f ((ds ++ dd).map Slot.val ++ List.replicate rest.length Slot.non) = some (fl, σ') ∧ retD fl = some d) : FnOK C (k + 1) (.ref fa) ds d := by
 intro A P W L m s vs Q Rm S n r hQ
 refine Xeea hf fun fl σ' hf hr => ?_
 have hl1 := r.length
 have hl2 := (hdv P).length
 have rr : Reps C P (ds ++ dd) (vs ++ dv) := r.append (hdv P)
 have hl3 : names.length = (vs ++ dv).length := by rw [List.length_append]; omega
 have hnd1 : names.Nodup := (List.nodup_append.mp hnd).1
 refine wpAny_call (enter_def ok X (hb s vs (ok.X.keeps S.keepH) (by omega)) hl3 hk hnd1 Rm S fun env W' F s' G fu Rm' S' V hW => ?_)
 haveI RE : RelEnv C (names ++ rest) env ((ds ++ dd).map Slot.val ++ List.replicate rest.length Slot.non) P W' F (fun x => (names.zip (vs ++ dv)).lookup x) (fun _ => 0) :=
   ⟨V, hnd, by simp; lia, fun i x hx => Reps.vals hnd1 rr hl3 i x hx, (fun i hi => by rw [noOwn] at hi; cases hi), (fun i j _ hi => by rw [noOwn] at hi; cases hi)⟩
 refine hB.go env _ P W' F _ _ s' _ σ' fl _ G fu Rm' S' RE hf fun fl' P2 W2 F2 vm2 own2 s2 S2 T2 R2 r2 => ?_
 exact hQ _ P2 W s2 T2.p (S2.less fun a o e => T2.w a o (hW a o e).1 (hW a o e).2) (.refl ..) (retD_rep hr r2)
noncomputable def putArg (first : Bool) (v0 : Value) (vs : List Value) : List Value := if first = true then v0 :: vs else vs ++ [v0]
noncomputable def FnIO (C : Cx) (k : Nat) (fv : Value) (first : Bool) (ds : List D) (sl0 sl1 : Slot) (d : D) : Prop :=
 ∀ (A : Around) (P W : Mp) (s : Shared) (vs : List Value) (v0 : Value) (b : Addr) (o0 : Obj) (Q : Value → Shared → Prop), Room k A → St C P W s → Reps C P ds vs →
   ValR C P b sl0 v0 → W b = some o0 → ObjR C P sl0 o0 →
   (∀ v P' s' o1, P.Le P' → St C P' (W.upd b o1) s' → ObjR C P' sl1 o1 → Rep C P' d v → Q v s') → wpAny C.M A (call fv (putArg first v0 vs)) Q NoE s
noncomputable def putSl (first : Bool) (sl : Slot) (ds : List D) (n : Nat) : LS := if first = true then sl :: (ds.map Slot.val ++ List.replicate n Slot.non) else ds.map Slot.val ++ sl :: List.replicate n Slot.non
noncomputable def ioAt (first : Bool) (ds : List D) : Nat := if first = true then 0 else ds.length
theorem RelEnv.slotAt (R : RelEnv C vars env σ P W F vm own) {i : Nat} {sl : Slot} (h : σ[i]? = some sl) (ho : sl.own = true) : ∃ v o, ValR C P (own i) sl v ∧ W (own i) = some o ∧ ObjR C P sl o ∧ F (own i) ∧ (sl.io = true → own i = C.b0) := by
 have hi : i < vars.length := by rw [← R.len]; exact (List.getElem?_eq_some_iff.mp h).1
 haveI := R.sl i vars[i] (List.getElem?_eq_getElem hi)
 haveI e : σ.getD i .non = sl := by rw [List.getD, h]; rfl
 rw [e] at this
 refine Xeeaaaa (this.own_of ho) fun v o h1 h2 h3 h4 h5 => ?_
 exact Ieeaaa v o h2 h3 h4 h5
section
variable {first : Bool} {sl0 : Slot} {ds : List D} {n : Nat} {vs : List Value} {v0 : Value}
theorem put_argl (h : ds.length = vs.length) : (putArg first v0 vs).length = ds.length + 1 := by
 cases first
 · show (vs ++ [v0]).length = _
   rw [List.length_append, ← h]; rfl
 · exact congrArg (· + 1) h.symm
theorem put_len : (putSl first sl0 ds n).length = ds.length + 1 + n := by
 cases first
 · show (ds.map Slot.val ++ sl0 :: List.replicate n Slot.non).length = _
   rw [List.length_append, List.length_map, List.length_cons, List.length_replicate, Nat.add_assoc, Nat.add_comm n]
 · show (sl0 :: (ds.map Slot.val ++ List.replicate n Slot.non)).length = _
   rw [List.length_cons, List.length_append, List.length_map, List.length_replicate, Nat.add_right_comm]
theorem put_io : (putSl first sl0 ds n).getD (ioAt first ds) .non = sl0 := by
 cases first
 · show (ds.map Slot.val ++ sl0 :: List.replicate n Slot.non).getD ds.length .non = _
   rw [List.getD, List.getElem?_append_right (Nat.le_of_eq (List.length_map _)), List.length_map, Nat.sub_self]; rfl
 · rfl
theorem put_arg (h : ds.length = vs.length) : (putArg first v0 vs)[ioAt first ds]? = some v0 := by
 cases first
 · show (vs ++ [v0])[ds.length]? = _
   rw [h, List.getElem?_append_right (Nat.le_refl _), Nat.sub_self]; rfl
 · rfl
theorem put_oth {sl0 : Slot} {n : Nat} (r : Reps C P ds vs) (v0 : Value) {i : Nat} (hi : i ≠ ioAt first ds) (hn : i < ds.length + 1) : ∃ d v, (putSl first sl0 ds n).getD i .non = .val d ∧ (putArg first v0 vs)[i]? = some v ∧ Rep C P d v := by
 cases first
 · have h1 : i < ds.length := Nat.lt_of_le_of_ne (Nat.le_of_lt_succ hn) hi
   refine Xea (r.get i (List.getElem?_eq_getElem h1)) fun v g1 g2 => ?_
   refine ⟨ds[i], v, ?_, ?_, g2⟩
   · show (ds.map Slot.val ++ sl0 :: List.replicate n Slot.non).getD i .non = _
     rw [List.getD, List.getElem?_append_left ((List.length_map (as := ds) Slot.val).symm ▸ h1), List.getElem?_map, List.getElem?_eq_getElem h1]; rfl
   · show (vs ++ [v0])[i]? = _
     rw [List.getElem?_append_left (r.length ▸ h1)]; exact g1
 · cases i with
   | zero => exact absurd rfl hi
   | succ j =>
     have h1 : j < ds.length := Nat.lt_of_succ_lt_succ hn
     refine Xea (r.get j (List.getElem?_eq_getElem h1)) fun v g1 g2 => ?_
     refine ⟨ds[j], v, ?_, g1, g2⟩
     show (sl0 :: (ds.map Slot.val ++ List.replicate n Slot.non)).getD (j + 1) .non = _
     rw [List.getD, List.getElem?_cons_succ, List.getElem?_append_left ((List.length_map (as := ds) Slot.val).symm ▸ h1), List.getElem?_map, List.getElem?_eq_getElem h1]; rfl
theorem rep_non {n j : Nat} : (List.replicate n Slot.non).getD j .non = .non := by
 rw [List.getD]
 cases q : (List.replicate n Slot.non)[j]? with
 | none => rfl
 | some y => exact (List.mem_replicate.mp (List.mem_of_getElem? q)).2
theorem put_out {i : Nat} (hn : ¬ i < ds.length + 1) : (putSl first sl0 ds n).getD i .non = .non := by
 haveI h0 : ds.length + 1 ≤ i := Nat.le_of_not_lt hn
 cases first
 · show (ds.map Slot.val ++ sl0 :: List.replicate n Slot.non).getD i .non = _
   rw [List.getD, List.getElem?_append_right ((List.length_map (as := ds) Slot.val).symm ▸ Nat.le_of_succ_le h0), List.length_map]
   refine Xe (Nat.exists_eq_add_of_le h0) fun j hj => ?_
   rw [hj, Nat.add_assoc, Nat.add_sub_cancel_left, Nat.add_comm 1 j, List.getElem?_cons_succ]
   exact rep_non
 · show (sl0 :: (ds.map Slot.val ++ List.replicate n Slot.non)).getD i .non = _
   cases i with
   | zero => exact absurd h0 (Nat.not_succ_le_zero _)
   | succ j =>
     rw [List.getD, List.getElem?_cons_succ, List.getElem?_append_right ((List.length_map (as := ds) Slot.val).symm ▸ Nat.le_of_succ_le_succ h0)]
     exact rep_non
theorem put_only (r : Reps C P ds vs) (v0 : Value) {i : Nat} (hi : ((putSl first sl0 ds n).getD i .non).own = true) : i = ioAt first ds := by
 by_cases h : i = ioAt first ds
 · exact h
 · by_cases hn : i < ds.length + 1
   · refine Xeea (put_oth (sl0 := sl0) (n := n) r v0 h hn) fun d' v e _ => ?_
     rw [e] at hi; exact noft hi
   · rw [put_out hn] at hi; exact noft hi
end
theorem fnIO_ok {fa : Addr} {fd : FuncData} {body : List Stmt} {names rest : List Str} {first : Bool} {f : FnF} (ok : C.OK) (X : DefAt C fa fd body)
   (hb : ∀ s (vs : List Value), vs.length = names.length → BindsTo s fd ⟨vs, []⟩ (names.zip vs))
   (hk : ∀ x ∈ names, fd.scope.names.lookup x = some .local ∨ fd.scope.names.lookup x = some .cell) (hnd : (names ++ rest).Nodup) (hB : ∀ b, BOK (C.at b) k fd.scope (names ++ rest) body f) {ds : List D} {d : D} {sl0 sl1 : Slot}
   (hio0 : sl0.io = true) (hio1 : sl1.io = true) (hl : ds.length + 1 = names.length)
   (hf : ∃ fl σ', f (putSl first sl0 ds rest.length) = some (fl, σ') ∧ retD fl = some d ∧ σ'[ioAt first ds]? = some sl1) : FnIO C (k + 1) (.ref fa) first ds sl0 sl1 d := by
 intro A P W s vs v0 b o0 Q Rm S r hv hw ho hQ
 refine Xeeaa hf fun fl σ' hf hr h1 => ?_
 haveI io_own : ∀ {sl : Slot}, sl.io = true → sl.own = true := fun {sl} h => by cases sl <;> first | rfl | cases h
 haveI hl1 := r.length
 haveI hl3 : names.length = (putArg first v0 vs).length := (put_argl hl1).symm ▸ hl.symm
 have hnd1 : names.Nodup := (List.nodup_append.mp hnd).1
 refine wpAny_call (enter_def ok X (hb s _ hl3.symm) hl3 hk hnd1 Rm S fun env W' F s' G fu Rm' S' V hW => ?_)
 refine Xa (hW b o0 hw) fun wb nb => ?_
 have len : (putSl first sl0 ds rest.length).length = (names ++ rest).length := by rw [put_len, hl, List.length_append]
 haveI io : (putSl first sl0 ds rest.length).getD (ioAt first ds) .non = sl0 := put_io
 haveI arg : (putArg first v0 vs)[ioAt first ds]? = some v0 := put_arg hl1
 have onlyIo : ∀ i, ((putSl first sl0 ds rest.length).getD i .non).own = true → i = ioAt first ds := fun i hi => put_only r v0 hi
 have V' : Vars env W' (fun a => F a ∨ a = b) (fun x => (names.zip (putArg first v0 vs)).lookup x) :=
   ⟨V.loc, .inl V.locF, V.cel, fun hf x c e => .inl (V.celF hf x c e), V.celK, V.celE, V.celD⟩
 have neL : b ≠ env.locals := fun e => nb (e ▸ V.locF)
 have neC : ∀ x c, env.cells.lookup x = some c → b ≠ c := fun x c e e' => nb (e' ▸ V.celF fu x c e)
 have RE : RelEnv (C.at b) (names ++ rest) env (putSl first sl0 ds rest.length) P W' (fun a => F a ∨ a = b) (fun x => (names.zip (putArg first v0 vs)).lookup x) (fun _ => b) := by
   refine ⟨V', hnd, len, fun i x hx => ?_, fun i hi => ⟨neL, neC⟩, fun i j hne hi hj => absurd ((onlyIo i hi).trans (onlyIo j hj).symm) hne⟩
   by_cases hn : i < names.length
   · rw [List.getElem?_append_left hn] at hx
     by_cases h : i = ioAt first ds
     · subst h
       rw [io]
       haveI e := lookup_zip hnd1 hx arg
       have : ∃ v o, (names.zip (putArg first v0 vs)).lookup x = some v ∧ ValR (C.at b) P b sl0 v ∧ W' b = some o ∧ ObjR (C.at b) P sl0 o ∧ (F b ∨ b = b) ∧ (sl0.io = true → b = b) :=
         ⟨v0, o0, e, ValR.b0.mp hv, wb, ObjR.b0.mp ho, .inr rfl, fun _ => rfl⟩
       cases sl0 <;> first | (cases hio0; done) | exact this
     · refine Xeeaa (put_oth (sl0 := sl0) (n := rest.length) r v0 h (hl ▸ hn)) fun d' v e g1 g2 => ?_
       rw [e]
       exact Iea v (lookup_zip hnd1 hx g1) ((Rep.b0 d').mp g2)
   · rw [put_out (hl ▸ hn)]; trivial
 refine (hB b).go env _ P W' _ _ _ s' _ σ' fl _ G fu Rm' (St.b0.mp S') RE hf fun fl' P2 W2 F2 vm2 own2 s2 S2 T2 R2 r2 => ?_
 refine Xeeaaaa (R2.slotAt h1 (io_own hio1)) fun v1 o1 k1 k2 k3 _ k4 => ?_
 rw [show own2 (ioAt first ds) = b from k4 hio1] at k2
 refine hQ _ P2 s2 o1 T2.p (St.b0.mpr (S2.less fun a o e => ?_)) (ObjR.b0.mpr k3) ((Rep.b0 d).mpr (retD_rep hr r2))
 by_cases ha : a = b
 · subst ha; rw [Mp.upd_self] at e; cases e; exact k2
 · rw [Mp.upd_ne _ _ ha] at e
   exact T2.w a o (hW a o e).1 fun q => q.elim (hW a o e).2 ha
end
section
theorem RelEnv.setOwn (R : RelEnv C vars env σ P W F vm own) {i : Nat} {x : Str} {sl : Slot} {o : Obj} {v : Value} (hi : vars[i]? = some x) (ho : (σ.getD i .non).own = true) (hx : vm x = some v) (hv : ValR C P (own i) sl v) (hs : sl.own = true)
   (hF : F (own i)) (hio : sl.io = true → own i = C.b0) (hr : ObjR C P sl o) : RelEnv C vars env (σ.set i sl) P (W.upd (own i) o) F vm own := by
 have il : i < σ.length := by rw [R.len]; exact idx_lt hi
 refine Xa (R.apL i ho) fun aL aC => ?_
 have keep : ∀ j, j ≠ i → (σ.getD j .non).own = true → own j ≠ own i := fun j hj h => R.apO j i hj h ho
 have isOwn : ∀ j, ((σ.set i sl).getD j .non).own = true → (σ.getD j .non).own = true := fun j hj => by
   by_cases hji : j = i
   · subst hji; exact ho
   · rw [getD_set_ne hji] at hj; exact hj
 refine ⟨?_, R.nd, by rw [List.length_set]; exact R.len, fun j y hj => ?_, fun j hj => R.apL j (isOwn j hj), fun j j' hne hj hj' => R.apO j j' hne (isOwn j hj) (isOwn j' hj')⟩
 · refine Xeeea R.vs.loc fun oL es ep g1 g2 => ?_
   refine ⟨⟨oL, es, ep, by rw [Mp.upd_ne _ _ (Ne.symm aL)]; exact g1, g2⟩, R.vs.locF, fun y c hc => ?_, R.vs.celF, R.vs.celK, R.vs.celE, R.vs.celD⟩
   refine Xea (R.vs.cel y c hc) fun oc g3 g4 => ?_
   exact Iea oc (by rw [Mp.upd_ne _ _ (Ne.symm (aC y c hc))]; exact g3) g4
 · by_cases hji : j = i
   · subst hji
     rw [getD_set_self il]
     obtain rfl : x = y := Option.some.inj (hi.symm.trans hj)
     have : ∃ v o', vm x = some v ∧ ValR C P (own j) sl v ∧ (W.upd (own j) o) (own j) = some o' ∧ ObjR C P sl o' ∧ F (own j) ∧ (sl.io = true → own j = C.b0) := ⟨v, o, hx, hv, Mp.upd_self .., hr, hF, hio⟩
     cases sl <;> first | (cases hs; done) | exact this
   · rw [getD_set_ne hji]
     have := R.sl j y hj
     cases hs : σ.getD j .non with
     | non => trivial
     | val d => rw [hs] at this; exact this
     | _ =>
       haveI hne : own j ≠ own i := keep j hji (by rw [hs]; rfl)
       rw [hs] at this; refine Xeeaaaa this fun v o k1 k2 k3 k4 k6 => ?_; exact Ieeaaaa v o k1 k2 (by rw [Mp.upd_ne _ _ hne]; exact k3) k4 k6
theorem RelEnv.ownAt (R : RelEnv C vars env σ P W F vm own) {i : Nat} {x : Str} {sl : Slot} (hi : vars[i]? = some x) (e : σ.getD i .non = sl) (ho : sl.own = true) :
   ∃ v o, vm x = some v ∧ ValR C P (own i) sl v ∧ W (own i) = some o ∧ ObjR C P sl o ∧ F (own i) ∧ (sl.io = true → own i = C.b0) := by
 have := R.sl i x hi
 rw [e] at this
 exact this.own_of ho
theorem step_set {a : Addr} {o : Obj} (hF : F a) : Step P W F P (W.upd a o) F :=
 ⟨.refl _, fun b ob e hn => by rw [Mp.upd_ne _ _ (by rintro rfl; exact hn hF)]; exact e, fun _ h => .inl h⟩
noncomputable def Rd (sc : Scope) (x : Str) : Prop := (sc.names.lookup x = some .local ∨ sc.names.lookup x = some .cell ∨ sc.names.lookup x = some .free) ∧ (x == ("__classdict__" : Str)) = false ∧ (x == ("__debug__" : Str)) = false
theorem read_name {E : Value → Shared → Prop} {x : Str} {px : Pos} {v : Value} {Q : Value → Shared → Prop} (G : EnvG sc env) (V : Vars env W F vm) (S : St C P W s) (hx : Rd sc x) (hv : vm x = some v) (h : Q v s) : wpAny C.M A (eval (.Name x px) env) Q E s :=
 wpAny_Name (load_name G V S hx.1 hv h hx.2.1) hx.2.2
theorem IsLst.exact {o : Obj} {vs : List Value} {h : Heap} {a : Addr} (x : IsLst o vs) (e : h.get? a = some o) : ∃ n, h.get? a = some { cls := .type "list", dict := none, data := .seq vs.toArray n, slots := #[] } := by
 refine Xe x fun n q1 => ?_; subst q1; exact ⟨n, e⟩
theorem Plain.few {e : Expr} (hp : Plain [e]) (pos : Pos) : ((backTo pos (starEach [e] env)).all (fun x => !x.1) && (backToKw pos (keywordEach [] env)).all (fun x => x.1.isSome)
     && decide (([e] : List Expr).length + ([] : List Keyword).length + (if ([] : List Keyword).isEmpty then 0 else 1) < 30)) = true := by
 have := hp.any env pos
 have h1 : (backTo pos (starEach [e] env)).all (fun x => !x.1) = true := by
   rw [List.all_eq_true]
   rw [List.any_eq_false] at this
   intro x hx
   simpa using this x hx
 rw [h1]; rfl
noncomputable def fAppend (i : Nat) (f : FnD) (σ : LS) : Option (Fl × LS) := match σ.getD i .non with
 | .ownL _ _ => (f σ).bind fun p => match p.2.getD i .non with
   | .ownL io xs => if xs.length ≤ bigN then some (.next, p.2.set i (.ownL io (xs ++ [p.1]))) else none
   | _ => none
 | _ => none
theorem SOK_append {x : Str} {px apos pos epos : Pos} {e : Expr} {i : Nat} {f : FnD} (hi : vars[i]? = some x) (hx : Rd sc x) (h : EOK C k sc vars e f) (hp : Plain [e])
   (hbase : ∀ env, attributeBase (.Name x px) "append" env (eval (.Name x px) env) = eval (.Name x px) env) (hline : (apos.endLine == pos.line) = true)
   (hs : ∀ env, swapsWith (.Call (.Attribute (.Name x px) "append" apos) [e] [] pos) none epos.line env = pure false) :
   SOK C k sc vars (.Expr (.Call (.Attribute (.Name x px) "append" apos) [e] [] pos) epos) (fAppend i f) := by
 constructor
 intro env A P W F vm own s σ σ' d Q G fu Rm S R hf hQ
 unfold fAppend at hf
 cases hσ : σ.getD i .non with
 | ownL io0 xs0 =>
   rw [hσ] at hf
   refine bs2 hf fun a σ1 e1 hf => ?_
   refine Xeeaaaaa (R.ownAt hi hσ rfl) fun v o h1 h2 h3 w2 h6 h7 => ?_; refine Xea w2 fun vs h4 h5 => ?_
   refine wpAny_Expr_any (wpAny_Call_append (hbase env) (hp.few pos) hline (by rw [hp.c env e [] rfl]; rfl) (read_name G R.vs S hx h1 ⟨own i, vs.toArray, h2, ?_, ?_⟩)) (by unfold interactive; rw [G.kind]; rfl) (hs env)
   · refine Xe (h4.exact (S.w _ _ h3).1) fun n q => ?_
     exact Ieeaaa _ n q rfl rfl rfl
   refine h.go env A P W F vm own s σ σ1 a _ G Rm S R e1 fun u P1 W1 F1 own1 s1 S1 T1 R1 r1 => ?_
   dsimp only at hf
   cases hσ1 : σ1.getD i .non with
   | ownL io xs =>
     rw [hσ1] at hf
     dsimp only at hf
     split at hf <;> cases hf
     rename_i hl
     refine Xeeaaaaa (R1.ownAt hi hσ1 rfl) fun v' o' g1 g2 g3 w3 g6 g7 => ?_; refine Xea w3 fun vs' g4 g5 => ?_
     have hvv : (Value.ref (own i)) = .ref (own1 i) := by
       have : v = v' := Option.some.inj (h1.symm.trans g1)
       rw [← (show v = .ref (own i) from h2), ← (show v' = .ref (own1 i) from g2), this]
     rw [hvv]
     refine Xe (g4.exact (S1.w _ _ g3).1) fun n q => ?_
     refine append_at q (fun h' hsb hg => ?_) (by rw [List.size_toArray, ← g5.length, sizeLine_eq]; unfold bigN at hl; omega)
     have hobj : IsLst { cls := .type "list", dict := none, data := .seq (vs'.toArray.push u) (n + 1), slots := #[] } (vs' ++ [u]) := ⟨n + 1, by simp⟩
     exact hQ .next P1 _ F1 vm own1 _ (S1.setW (tk := s1.toks) g3 hsb hg) (T1.trans (step_set g6))
       (R1.setOwn (sl := .ownL io (xs ++ [a])) hi (by rw [hσ1]; rfl) g1 g2 rfl g6 g7 ⟨_, hobj, g5.append (Reps.one r1)⟩) rfl
   | _ => rw [hσ1] at hf; cases hf
 | _ => rw [hσ] at hf; cases hf
noncomputable def fLenOwn (i : Nat) (σ : LS) : Option (D × LS) := match σ.getD i .non with
 | .ownL _ xs => if xs.length ≤ bigN then some (.int xs.length, σ) else none
 | _ => none
theorem EOK_lenOwn {x : Str} {fp px pos : Pos} {i : Nat} (ok : C.OK) (hi : vars[i]? = some x) (hx : Rd sc x) (hl : sc.names.lookup ("len" : Str) = some NameKind.globalImplicit) (en : nsIn C.K mainGlobals ("len" : Str) = some none) (hb : bootBuiltins ("len" : Str) = some (.builtin "len")) :
   EOK C k sc vars (.Call (.Name "len" fp) [.Name x px] [] pos) (fLenOwn i) := by
 constructor
 intro env A P W F vm own s σ σ' d Q G Rm S R hf hQ
 unfold fLenOwn at hf
 cases hσ : σ.getD i .non with
 | ownL io xs =>
   rw [hσ] at hf; dsimp only at hf
   split at hf <;> cases hf
   rename_i hlen
   refine Xeeaaaaa (R.ownAt hi hσ rfl) fun v o h1 h2 h3 w4 h6 h7 => ?_; refine Xea w4 fun vs h4 h5 => ?_
   refine call_bi ok G S hl en hb dc dc ?_ rfl rfl
   show wpAny C.M A (spliced ((false, eval (.Name x px) env) :: [])) _ _ _
   refine Calls.spliced_cons (read_name G R.vs S hx h1 (Calls.spliced_nil ?_))
   rw [show v = .ref (own i) from h2]
   have hsz : vs.toArray.size = xs.length := by rw [List.size_toArray, h5.length]
   exact len_list (h4.list (S.w _ _ h3).1) (by rw [hsz]; unfold bigN at hlen; lia) (hQ _ P W F own _ (S.toks _) (.refl ..) R ⟨s.toks + 1, by rw [hsz]⟩)
 | _ => rw [hσ] at hf; cases hf
noncomputable def ownLAt (i : Nat) (σ : LS) : Option (Bool × List D) := match σ.getD i .non with
 | .ownL io xs => some (io, xs)
 | _ => none
theorem ownLAt_eq {i : Nat} {io : Bool} {xs : List D} (h : ownLAt i σ = some (io, xs)) : σ.getD i .non = .ownL io xs := by
 unfold ownLAt at h
 cases e : σ.getD i .non with
 | ownL a x => rw [e] at h; have := sinj h; rw [pj1 this, pj2 this]
 | _ => rw [e] at h; exact nosome h
theorem same_addr {σ1 : LS} {P1 W1 : Mp} {F1 : Addr → Prop} {own1 : Nat → Addr} (R : RelEnv C vars env σ P W F vm own) (R1 : RelEnv C vars env σ1 P1 W1 F1 vm own1) {i : Nat} {x : Str} {io io1 : Bool} {xs xs1 : List D} (hi : vars[i]? = some x)
   (e : σ.getD i .non = .ownL io xs) (e1 : σ1.getD i .non = .ownL io1 xs1) : own1 i = own i := by
 refine Xeeaa (R.ownAt hi e rfl) fun v o h1 h2 _ => ?_
 refine Xeeaa (R1.ownAt hi e1 rfl) fun v' o' g1 g2 _ => ?_
 have : v = v' := Option.some.inj (h1.symm.trans g1)
 subst this
 have h2' : v = .ref (own i) := h2
 have g2' : v = .ref (own1 i) := g2
 rw [h2'] at g2'
 injection g2' with q
 exact q.symm
noncomputable def fAugSub (i : Nat) (op : Operator) (fi fe : FnD) (σ : LS) : Option (Fl × LS) :=
 (ownLAt i σ).bind fun _ => (fi σ).bind fun p => match p.1 with
   | .int j => if 0 ≤ j ∧ j < 1000 then (ownLAt i p.2).bind fun l => (l.2[j.toNat]?).bind fun o => (fe p.2).bind fun q => (ownLAt i q.2).bind fun l2 =>
       if j.toNat < l2.2.length then (augD op o q.1).map fun d => (.next, q.2.set i (.ownL l2.1 (l2.2.set j.toNat d))) else none else none
   | _ => none
theorem aug_ok {op : Operator} {a b d : D} (e : augD op a b = some d) {u v : Value} {Q : Value → Shared → Prop} (S : St C P W s) (ha : Rep C P a u) (hb : Rep C P b v)
   (h : ∀ r s', St C P W s' → s'.heap = s.heap → Rep C P d r → Q r s') : wpAny C.M A (inplaceOp op u v) Q NoE s := by
 cases aug_inv e
 · obtain ⟨t, rfl⟩ := ha; obtain ⟨t', rfl⟩ := hb; exact PySem.P.iadd_int (h _ _ (S.toks _) rfl ⟨_, rfl⟩)
 · obtain ⟨t, rfl⟩ := ha; obtain ⟨t', rfl⟩ := hb; exact PySem.P.isub_int (h _ _ (S.toks _) rfl ⟨_, rfl⟩)
theorem SOK_augSub {x : Str} {px tpos pos : Pos} {op : Operator} {ei e : Expr} {i : Nat} {fi fe : FnD} (hi : vars[i]? = some x) (hx : Rd sc x) (h1 : EOK C k sc vars ei fi) (h2 : EOK C k sc vars e fe)
   (hs : ∀ ov iv new, augStore ei ov iv new = (do holding [new, ov, iv] (setItem ov iv new); release [new, ov, iv] []; pure .next)) :
   SOK C k sc vars (.AugAssign (.Subscript (.Name x px) ei tpos) op e pos) (fAugSub i op fi fe) := by
 constructor
 intro env A P W F vm own s σ σ' d Q G fu Rm S R hf hQ
 unfold fAugSub at hf
 refine bs2 hf fun io0 xs0 e0 hf => ?_
 refine bs2 hf fun dj σ1 e1 hf => ?_
 have e0' := ownLAt_eq e0
 refine Xeeaaaaa (R.ownAt hi e0' rfl) fun v o v1 v2 v3 w7 v6 v7 => ?_; refine Xea w7 fun vs v4 v5 => ?_
 cases dj <;> first | exact ns hf | (cases hf; done) | skip
 rename_i j
 dsimp only at hf
 split at hf
 case isFalse => exact ns hf
 rename_i hj
 refine bs2 hf fun io1 xs1 e2 hf => ?_
 refine bs1 hf fun old e3 hf => ?_
 refine bs2 hf fun de σ2 e4 hf => ?_
 refine bs2 hf fun io2 xs2 e5 hf => ?_
 dsimp only at hf e3
 split at hf
 case isFalse => exact ns hf
 rename_i hlt
 refine ms1 hf fun new e6 hf => ?_
 nomatch hf, hQ
 refine wpAny_AugAssign_SubscriptAny (read_name G R.vs S hx v1 ?_) hs
 rw [show v = .ref (own i) from v2]
 refine h1.go env A P W F vm own s σ σ1 _ _ G Rm S R e1 fun jv P1 W1 F1 own1 s1 S1 T1 R1 r1 => ?_
 refine Xe r1 fun tj q1 => ?_; subst q1
 have e2' := ownLAt_eq e2
 refine Xeeaaaaa (R1.ownAt hi e2' rfl) fun w w1 w2 w3 w4 w11 w7 w8 => ?_; refine Xea w11 fun us w5 w6 => ?_
 have ad1 : own1 i = own i := same_addr R R1 hi e0' e2'
 rw [← ad1]
 refine Xea (w6.get _ e3) fun y y1 y2 => ?_
 refine wpAny_getItem_list (w5.list (S1.w _ _ w4).1) hj.1 (by omega) (by simpa using y1) ?_
 refine h2.go env A P1 W1 F1 vm own1 s1 σ1 σ2 de _ G Rm S1 R1 e4 fun ev P2 W2 F2 own2 s2 S2 T2 R2 r2 => ?_
 refine aug_ok e6 S2 (Rep.mono T2.p _ y2) r2 fun nv s3 S3 hh r3 => ?_
 have e5' := ownLAt_eq e5
 refine Xeeaaaaa (R2.ownAt hi e5' rfl) fun z z1 z2 z3 z4 w12 z7 z8 => ?_; refine Xea w12 fun ts z5 z6 => ?_
 rw [← same_addr R1 R2 hi e2' e5']
 refine Xe (z5.exact (S3.w _ _ z4).1) fun n q => ?_
 haveI hlen := z6.length
 refine ki_setAt q hj.1 (by lia) (by rw [List.size_toArray]; lia) ?_
 haveI hsb : Heap.SameBut (own2 i) s3.heap (s3.heap.update (own2 i) (Obj.mapSeq (·.setIfInBounds j.toNat nv))) := Heap.SameBut.update ..
 haveI hg := PySem.IsL.update q (·.setIfInBounds j.toNat nv)
 haveI hobj : IsLst { cls := .type "list", dict := none, data := .seq (ts.toArray.setIfInBounds j.toNat nv) (if ((ts.toArray.setIfInBounds j.toNat nv).size == ts.toArray.size) = true then n else n + 1), slots := #[] } (ts.set j.toNat nv) := ⟨_, by rw [show (ts.set j.toNat nv).toArray = ts.toArray.setIfInBounds j.toNat nv by simp]⟩
 exact hQ .next P2 _ F2 vm own2 _ (S3.setW (tk := s3.toks) z4 hsb hg) (T1.trans (T2.trans (step_set z7)))
   (R2.setOwn (sl := .ownL io2 (xs2.set j.toNat new)) hi (by rw [e5']; rfl) z2 z3 rfl z7 z8 ⟨_, hobj, z6.set _ r3⟩) rfl
end
noncomputable def ksE : D → Option KS
 | .str x => some (.s x)
 | .int n => some (.i n)
 | _ => none
noncomputable def ksOf : List D → Option (List KS)
 | [] => some []
 | d :: r => (ksE d).bind fun e => (ksOf r).map (e :: ·)
noncomputable def keyD (d : D) : Option (List KS) := (tupD d).bind ksOf
noncomputable def atT (es : LT) (k : List KS) : Option Int := (es.find? fun e => e.1 = k).map (·.2)
section
theorem ksOf_items {xs : List D} : ∀ {ks : List KS} {vs : List Value}, ksOf xs = some ks → Reps C P xs vs → ItemsAre (ksKind C.prog C.w) ks vs := by
 induction xs with
 | nil => intro ks vs e h; obtain rfl := sinj e; rw [show vs = [] from h]; exact .nil
 | cons x xs ih =>
   intro ks vs e h
   refine Xeeaa h fun v r e1 e2 e3 => ?_
   subst e1
   refine bs1 (x := ksE x) e fun k h1 h2 => ?_
   refine ms1 (x := ksOf xs) h2 fun ks h3 h4 => ?_
   subst h4
   refine .cons ?_ (ih h3 e3)
   cases x with
   | str x => obtain rfl := sinj h1; refine Xe e2 fun t q => ?_; subst q; simp [ksKind, ksIs, Value.isStrOf]
   | int n => obtain rfl := sinj h1; refine Xe e2 fun t q => ?_; subst q; simp [ksKind, ksIs, Value.isInt]
   | _ => exact nosome h1
theorem keyD_is {d : D} {ks : List KS} {v : Value} (e : keyD d = some ks) (h : Rep C P d v) : ∃ a ok vs, v = .ref a ∧ P a = some ok ∧ IsTupO ok vs ∧ ItemsAre (ksKind C.prog C.w) ks vs := by
 refine bs1 e fun xs e1 e2 => ?_
 obtain rfl := tupD_eq e1
 refine Xeeeaaa h fun a ok vs h1 h2 h3 h4 => ?_; exact Ieeeaaa a ok vs h1 h2 h3 (ksOf_items e2 h4)
theorem kt_is {h : Heap} {a : Addr} {ok : Obj} {vs : List Value} {ks : List KS} (p : h.get? a = some ok) (q : IsTupO ok vs) (r : ItemsAre (ksKind C.prog C.w) ks vs) : (C.kt).is h ks a := by
 refine Xe q fun n q1 => ?_; subst q1; exact Ieeeaaa _ vs.toArray n p rfl rfl (by simpa using r)
theorem TR.keys {es : LT} {xs : List (List KS × Addr × Value)} (h : TR C.prog C.w P es xs) : xs.map (·.1) = es.map (·.1) := by
 induction h with
 | nil => rfl
 | cons _ _ _ _ ih => rw [List.map_cons, List.map_cons, ih]
theorem TR.is {h : Heap} (hp : ∀ a o, P a = some o → h.get? a = some o) {es : LT} {xs : List (List KS × Addr × Value)} (H : TR C.prog C.w P es xs) : ∀ x ∈ xs, (C.kt).is h x.1 x.2.1 := by
 induction H with
 | nil => intro x hx; cases hx
 | cons a b c _ ih =>
   intro x hx
   rcases List.mem_cons.mp hx with rfl | hx
   · exact kt_is (hp _ _ a) b c
   · exact ih x hx
theorem aT_hit {ks : List KS} {n : Int} {es : LT} : atT ((ks, n) :: es) ks = some n := by unfold atT; rw [List.find?_cons, decide_eq_true rfl]; rfl
theorem aT_miss {k0 ks : List KS} {n : Int} {es : LT} (h : ¬ k0 = ks) : atT ((k0, n) :: es) ks = atT es ks := by unfold atT; rw [List.find?_cons, decide_eq_false h]
theorem aK_hit {ks : List KS} {n : Addr × Value} {es : List (List KS × Addr × Value)} : atKey ((ks, n) :: es) ks = some n := by unfold atKey; rw [List.find?_cons, decide_eq_true rfl]; rfl
theorem aK_miss {k0 ks : List KS} {n : Addr × Value} {es : List (List KS × Addr × Value)} (h : ¬ k0 = ks) : atKey ((k0, n) :: es) ks = atKey es ks := by unfold atKey; rw [List.find?_cons, decide_eq_false h]
theorem TR.at_none {ks : List KS} {es : LT} {xs : List (List KS × Addr × Value)} (H : TR C.prog C.w P es xs) : atT es ks = none → atKey xs ks = none := by
 induction H with
 | nil => intro _; rfl
 | @cons k0 _ _ _ _ _ _ _ a b c _ ih =>
   intro h
   by_cases hj : k0 = ks
   · subst hj; exact nosome (h.symm.trans aT_hit)
   · rw [aK_miss hj]; exact ih ((aT_miss hj).symm.trans h)
theorem TR.at_some {ks : List KS} {n : Int} {es : LT} {xs : List (List KS × Addr × Value)} (H : TR C.prog C.w P es xs) : atT es ks = some n → ∃ a t, atKey xs ks = some (a, .int n t) := by
 induction H with
 | nil => intro h; exact nosome h
 | @cons k0 _ a0 t0 _ _ _ _ a b c _ ih =>
   intro h
   by_cases hj : k0 = ks
   · subst hj; obtain rfl := sinj (aT_hit.symm.trans h); exact ⟨a0, t0, aK_hit⟩
   · rw [aK_miss hj]; exact ih ((aT_miss hj).symm.trans h)
theorem TR.snoc {ks : List KS} {n : Int} {a : Addr} {t : Tok} {ok : Obj} {vs : List Value} (p : P a = some ok) (q : IsTupO ok vs) (r : ItemsAre (ksKind C.prog C.w) ks vs) {es : LT} {xs : List (List KS × Addr × Value)} (H : TR C.prog C.w P es xs) : TR C.prog C.w P (es ++ [(ks, n)]) (xs ++ [(ks, a, .int n t)]) := by
 induction H with
 | nil => exact .cons p q r .nil
 | cons a b c _ ih => exact .cons a b c ih
theorem IsDctT.heap {o : Obj} {d : Addr} {es : LT} {h : Heap} (hp : ∀ a o, P a = some o → h.get? a = some o) (ho : h.get? d = some o) : IsDctT C P o es → ∃ xs, h.DictOfH C.kt d xs ∧ TR C.prog C.w P es xs := fun ⟨xs, dE, ep, h1, h2, h3, h4, h5⟩ =>
 ⟨xs, ⟨o, dE, ep, ho, h1, h2, h3, h5.is hp, by rw [h5.keys]; exact h4⟩, h5⟩
theorem ki_room {B : Around} {n : Nat} (Rm : Room n B) : (C.kt).room B.in1 := by
 show B.units + 1 < cLine
 haveI := Rm.2.2; lia
theorem ki_room0 {B : Around} {n : Nat} (Rm : Room n B) : (C.kt).room B := by
 exact rm_0 Rm.2.2
theorem lo_ne {d : Addr} (h : sysModules < d) : (d == sysModules) = false := beq_eq_false_iff_ne.mpr (Nat.ne_of_gt h)
noncomputable def ownTAt (i : Nat) (σ : LS) : Option (LT) := match σ.getD i .non with
 | .ownT es => some es
 | _ => none
theorem ownTAt_eq {i : Nat} {es : LT} (h : ownTAt i σ = some es) : σ.getD i .non = .ownT es := by
 unfold ownTAt at h
 cases e : σ.getD i .non with
 | ownT x => rw [e] at h; rw [sinj h]
 | _ => rw [e] at h; exact nosome h
noncomputable def ownIAt (i : Nat) (σ : LS) : Option (List (Int × D)) := match σ.getD i .non with
 | .ownI es => some es
 | _ => none
theorem ownIAt_eq {i : Nat} {es : List (Int × D)} (h : ownIAt i σ = some es) : σ.getD i .non = .ownI es := by
 unfold ownIAt at h
 cases e : σ.getD i .non with
 | ownI x => rw [e] at h; rw [sinj h]
 | _ => rw [e] at h; exact nosome h
theorem addr_of {σ1 : LS} {P1 W1 : Mp} {F1 : Addr → Prop} {own1 : Nat → Addr} {v : Value} {a : Addr} (R1 : RelEnv C vars env σ1 P1 W1 F1 vm own1) {i : Nat} {x : Str} {sl : Slot} (hi : vars[i]? = some x)
   (hv : vm x = some v) (e1 : σ1.getD i .non = sl) (ho : sl.own = true) (hs : ∀ u, ValR C P1 (own1 i) sl u → u = .ref (own1 i)) (hv' : v = .ref a) : a = own1 i := by
 refine Xeeaa (R1.ownAt hi e1 ho) fun v' o' g1 g2 _ => ?_
 have : v = v' := Option.some.inj (hv.symm.trans g1)
 subst this
 have := hs _ g2
 rw [hv'] at this
 injection this
noncomputable def fSetT (i : Nat) (fe fk : FnD) (σ : LS) : Option (Fl × LS) :=
 (fe σ).bind fun p => (intD p.1).bind fun n => (ownTAt i p.2).bind fun _ => (fk p.2).bind fun q => (keyD q.1).bind fun ks => (ownTAt i q.2).bind fun es =>
   if atT es ks = none ∧ es.length ≤ bigN then some (.next, q.2.set i (.ownT (es ++ [(ks, n)]))) else none
theorem SOK_setT {x : Str} {px pos' pos : Pos} {ek e : Expr} {i : Nat} {fk fe : FnD} (hi : vars[i]? = some x) (hx : Rd sc x) (h1 : EOK C k sc vars ek fk) (h2 : EOK C k sc vars e fe)
   (hs : ∀ env, swapsWith e (some (.Subscript (.Name x px) ek pos')) pos.line env = pure false) :
   SOK C k sc vars (.Assign [.Subscript (.Name x px) ek pos'] e pos) (fSetT i fe fk) := by
 constructor
 intro env A P W F vm own s σ σ' d Q G fu Rm S R hf hQ
 unfold fSetT at hf
 refine bs2 hf fun de σ1 e1 hf => ?_
 refine bs1 hf fun n e2 hf => ?_
 refine bs1 hf fun es1 e3 hf => ?_
 refine bs2 hf fun dk σ2 e4 hf => ?_
 refine bs1 hf fun ks e5 hf => ?_
 refine bs1 hf fun es e6 hf => ?_
 split at hf
 case isFalse => exact ns hf
 rename_i hnew
 nomatch hf, hQ
 obtain rfl : de = .int n := intD_eq e2
 refine wpAny_Assign_Subscript (h2.go env A P W F vm own s σ σ1 _ _ G Rm S R e1 fun nv P1 W1 F1 own1 s1 S1 T1 R1 r1 => ?_) (hs env)
 refine Xe r1 fun t q1 => ?_; subst q1
 refine Xeeaaa (R1.ownAt hi (ownTAt_eq e3) rfl) fun v o v1 v2 v3 _ => ?_
 refine read_name G R1.vs S1 hx v1 ?_
 refine h1.go env A P1 W1 F1 vm own1 s1 σ1 σ2 dk _ G Rm S1 R1 e4 fun kv P2 W2 F2 own2 s2 S2 T2 R2 r2 => ?_
 refine Xeeeaaa (keyD_is e5 r2) fun a ok vs q3 p1 p2 p3 => ?_; subst q3
 have e6' := ownTAt_eq e6
 rw [v2.1, show own1 i = own2 i from addr_of R2 hi v1 e6' rfl (fun _ h => h.1) v2.1]
 refine Xeeaaaaa (R2.ownAt hi e6' rfl) fun z oz z1 z2 z3 z4 z5 _ => ?_
 refine Xea (z4.heap S2.p (S2.w _ _ z3).1) fun xs D1 D2 => ?_
 have hlen : xs.length = es.length := by have := congrArg List.length D2.keys; simpa using this
 refine wpAny_setItem_heap (ki_room Rm) (kt_is (S2.p _ _ p1) p2 p3) D1 (fun h' D' hsb => ?_) (by rw [hlen, sizeLine_eq]; have := hnew.2; unfold bigN at this; lia)
 refine Xeeeaaaaa D' fun o' dE' ep' ho' x1 x2 x3 x4 x5 => ?_
 rw [storedH_new (D2.at_none hnew.1)] at x3 x5
 haveI hobj : IsDctT C P2 o' (es ++ [(ks, n)]) := ⟨_, dE', ep', x1, x2, x3, by rw [← (D2.snoc (n := n) (t := t) p1 p2 p3).keys]; exact x5, D2.snoc p1 p2 p3⟩
 exact hQ .next P2 _ F2 vm own2 _ (S2.setW z3 hsb ho') (T1.trans (T2.trans (step_set z5))) (R2.setOwn (sl := .ownT (es ++ [(ks, n)])) hi (by rw [e6']; rfl) z1 z2 rfl z5 (fun h => by cases h) hobj) rfl
noncomputable def fInT (i : Nat) (fk : FnD) (σ : LS) : Option (Bool × LS) :=
 (fk σ).bind fun q => (keyD q.1).bind fun ks => (ownTAt i q.2).bind fun es => some ((atT es ks).isSome, q.2)
theorem TOK_inT {x : Str} {px pos : Pos} {ek : Expr} {i : Nat} {fk : FnD} (hi : vars[i]? = some x) (hx : Rd sc x) (h1 : EOK C k sc vars ek fk)
   (hm : behindInMarks .In (.Name x px) = false) : TOK C k sc vars (.Compare ek [.In] [.Name x px] pos) (fInT i fk) := by
 constructor
 intro env A P W F vm own s σ σ' d Q G Rm S R hf hQ
 unfold fInT at hf
 refine bs2 hf fun dk σ2 e4 hf => ?_
 refine bs1 hf fun ks e5 hf => ?_
 refine bs1 hf fun es e6 hf => ?_
 nomatch hf, hQ
 refine wpAny_isTrue_Compare1 (h1.go env A P W F vm own s σ σ2 dk _ G Rm S R e4 fun kv P2 W2 F2 own2 s2 S2 T2 R2 r2 => ?_) hm
 refine Xeeeaaa (keyD_is e5 r2) fun a ok vs q3 p1 p2 p3 => ?_; subst q3
 refine Xeeaaaaa (R2.ownAt hi (ownTAt_eq e6) rfl) fun z oz z1 z2 z3 z4 z5 _ => ?_
 refine read_name G R2.vs S2 hx z1 ?_
 rw [z2.1]
 refine Xea (z4.heap S2.p (S2.w _ _ z3).1) fun xs D1 D2 => ?_
 refine wpAny_in_heap (ki_room Rm) (kt_is (S2.p _ _ p1) p2 p3) (lo_ne z2.2) D1 ?_
 haveI : (atKey xs ks).isSome = (atT es ks).isSome := by
   cases q : atT es ks with
   | none => rw [D2.at_none q]; rfl
   | some n => refine Xee (D2.at_some q) fun a t e => ?_; rw [e]; rfl
 rw [this]
 exact wpAny_truthy_bool (hQ P2 W2 F2 own2 _ (S2.toks _) T2 R2)
noncomputable def fNewE (i : Nat) (sl : Slot) (σ : LS) : Option (Fl × LS) := some (.next, σ.set i sl)
theorem emptyT : IsDctT C P { cls := .type "dict", data := .dict #[] } [] := ⟨[], #[], 0, ⟨rfl, rfl, rfl⟩, rfl, rfl, .nil, .nil⟩
theorem emptyI : ({ cls := .type "dict", data := .dict #[] } : Obj).IsDictOf C.ki [] := ⟨#[], 0, ⟨rfl, rfl, rfl⟩, rfl, (by intro e he; simp at he), .nil, .nil⟩
theorem SOK_newE {x : Str} {px pos dp : Pos} {i : Nat} {sl : Slot} (hi : vars[i]? = some x) (hx : Sto sc x) (hsl : sl = .ownI [] ∨ sl = .ownT []) :
   SOK C k sc vars (.Assign [.Name x px] (.Dict [] [] dp) pos) (fNewE i sl) := by
 constructor
 intro env A P W F vm own s σ σ' d Q G fu Rm S R hf hQ
 nomatch hf, hQ
 refine wpAny_Assign_Name (wpAny_Dict_empty ?_) rfl
 have e1 : sl.own = true ∧ sl.io = false := by rcases hsl with rfl | rfl <;> exact ⟨rfl, rfl⟩
 refine set_new (sl := sl) (b := s.heap.objs.size) G (S.newW (tk := s.toks) rfl) S.freshW R hi (hx.at fu) e1.1 e1.2 ?_ ?_ fun W2 F2 vm2 own2 s2 S2 T2 R2 => hQ .next P W2 _ vm2 own2 s2 S2 T2 R2 rfl
 · rcases hsl with rfl | rfl <;> exact ⟨rfl, S.big⟩
 · rcases hsl with rfl | rfl
   · exact Iea ([]) emptyI rfl
   · exact emptyT
theorem EOK_dict0 {dp : Pos} : EOK C k sc vars (.Dict [] [] dp) (kq (.dT [])) := by
 constructor
 intro env A P W F vm own s σ σ' d Q G Rm S R hf hQ
 nomatch hf, hQ
 refine wpAny_Dict_empty ?_
 have hle : P.Le (P.upd s.heap.objs.size { cls := .type "dict", data := .dict #[] }) := Mp.Le.upd S.freshP
 exact hQ _ _ W F own _ (S.newP (tk := s.toks) rfl) (.le hle) (R.monoP hle) ⟨_, _, rfl, Mp.upd_self .., emptyT, S.big⟩
end
section
theorem ki_is (n : Int) (t : Tok) : (C.ki).is n (.int n t) = true := intKind_is _ _ _ _
noncomputable def fSetdef (i : Nat) (f : FnL) (σ : LS) : Option (D × LS) :=
 (ownIAt i σ).bind fun _ => (f σ).bind fun p => match p.1 with
   | [.int n, d] => (ownIAt i p.2).bind fun es => if es.length ≤ bigN then (match atI es n with
       | some d0 => some (d0, p.2)
       | none => some (d, p.2.set i (.ownI (putI es n d)))) else none
   | _ => none
theorem EOK_setdef {x : Str} {px apos pos : Pos} {es : List Expr} {i : Nat} {f : FnL} (X : BMeth "dict" "setdefault" "dict.setdefault") (hi : vars[i]? = some x) (hx : Rd sc x) (h : LOK C k sc vars es f) (hp : Plain es)
   (hp' : ∀ e r, es = e :: r → Plain r) (hlen : es.length < 29)
   (hbase : ∀ env, attributeBase (.Name x px) "setdefault" env (eval (.Name x px) env) = eval (.Name x px) env) (hline : (apos.endLine == pos.line) = true) :
   EOK C k sc vars (.Call (.Attribute (.Name x px) "setdefault" apos) es [] pos) (fSetdef i f) := by
 constructor
 intro env A P W F vm own s σ σ' d Q G Rm S R hf hQ
 unfold fSetdef at hf
 refine bs1 hf fun es0 e0 hf => ?_
 refine bs2 hf fun ds σ1 e1 hf => ?_
 dsimp only at hf
 split at hf
 case h_2 => cases hf
 rename_i n dd
 refine bs1 hf fun es1 e2 hf => ?_
 split at hf
 case isFalse => exact ns hf
 rename_i hbig
 refine Xeeaaaaa (R.ownAt hi (ownIAt_eq e0) rfl) fun v o v1 v2 v3 w2 v6 v7 => ?_; refine Xea w2 fun kvs v4 v5 => ?_
 refine wpAny_Call_method (hbase env) ?_ hline X.pa X.slot X.ty (read_name G R.vs S hx v1 ?_)
 · have := hp.any env pos
   have h1 : (backTo pos (starEach es env)).all (fun x => !x.1) = true := by
     rw [List.all_eq_true]
     rw [List.any_eq_false] at this
     intro x hx
     simpa using this x hx
   rw [h1]
   simp [kwN]
   omega
 · rw [v2.1]
   refine Xeea (id v4) fun _ _ hex _ => ?_
   refine ⟨⟨o, (S.w _ _ v3).1, hex.1⟩, fun a e => by cases e; exact ⟨o, (S.w _ _ v3).1, hex.2.1⟩, callWith_args hp hp' (h.go env pos A P W F vm own s σ σ1 _ _ G Rm S R e1 fun vs P2 W2 F2 own2 s2 S2 T2 R2 r2 => ?_)⟩
   refine Xeeaaeeaa r2 fun kv r q2 r3 vd _ q6 r4 q8 => ?_; subst q2; subst q6; subst q8
   refine Xe r3 fun t q1 => ?_; subst q1
   have e2' := ownIAt_eq e2
   rw [show own i = own2 i from addr_of R2 hi v1 e2' rfl (fun _ h => h.1) v2.1]
   refine Xeeaaaaa (R2.ownAt hi e2' rfl) fun z oz z1 z2 z3 w3 z6 z7 => ?_; refine Xea w3 fun kvs2 z4 z5 => ?_
   have hD : s2.heap.DictOf C.ki (own2 i) kvs2 := Heap.dictOf_iff.mpr ⟨oz, (S2.w _ _ z3).1, z4⟩
   have hl := z5.length
   refine call_meetsIn PySem.F.slot_dict_setdefault hD.typeIs PySem.F.entry_dict_setdefault (PySem.F.args_dict_setdefault_3 _ _ _) (kt_meets_setdefault C.ki (own2 i) (ki_is _ _) (lo_ne z2.2) vd)
     ⟨kvs2, hD, (by rw [← hl, sizeLine_eq]; unfold bigN at hbig; omega), (fun u hu => ?_), (fun hn h' hD' hsb => ?_)⟩
   · cases q : atI es1 n with
     | none => rw [z5.at_none q] at hu; cases hu
     | some d0 =>
       refine Xea (z5.at_some q) fun w g1 g2 => ?_
       rw [g1] at hu; cases hu
       rw [q] at hf; cases hf
       exact hQ _ P2 W2 F2 own2 _ (S2.toks _) T2 R2 g2
   · cases q : atI es1 n with
     | some d0 => refine Xea (z5.at_some q) fun w g1 g2 => ?_; rw [g1] at hn; cases hn
     | none =>
       rw [q] at hf; cases (hf)
       refine Xea (Heap.dictOf_iff.mp hD') fun o' ho' hd' => ?_
       exact hQ _ P2 _ F2 own2 _ (S2.setW z3 hsb ho') (T2.trans (step_set z6)) (R2.setOwn (sl := .ownI (putI es1 n d)) hi (by rw [e2']; rfl) z1 z2 rfl z6 (fun h => by cases (h)) ⟨_, hd', z5.put r4⟩) r4
noncomputable def fGetI (i : Nat) (f : FnD) (σ : LS) : Option (D × LS) :=
 (ownIAt i σ).bind fun _ => (f σ).bind fun p => (intD p.1).bind fun n => (ownIAt i p.2).bind fun es => (atI es n).map fun d => (d, p.2)
theorem EOK_getI {x : Str} {px pos : Pos} {ek : Expr} {i : Nat} {f : FnD} (hi : vars[i]? = some x) (hx : Rd sc x) (h : EOK C k sc vars ek f)
   (hs : ∀ o i : Value, subscripted ek false o i = operate [o, i] (getItem o i)) : EOK C k sc vars (.Subscript (.Name x px) ek pos) (fGetI i f) := by
 constructor
 intro env A P W F vm own s σ σ' d Q G Rm S R hf hQ
 unfold fGetI at hf
 refine bs1 hf fun es0 e0 hf => ?_
 refine bs2 hf fun dk σ1 e1 hf => ?_
 refine bs1 hf fun n e2 hf => ?_
 refine bs1 hf fun es1 e3 hf => ?_
 refine ms1 hf fun dd e4 hf => ?_
 nomatch hf, hQ
 obtain rfl : dk = .int n := intD_eq e2
 refine Xeeaaaaa (R.ownAt hi (ownIAt_eq e0) rfl) fun v o v1 v2 v3 w5 v6 v7 => ?_; refine Xea w5 fun kvs v4 v5 => ?_
 refine Subscript_ (read_name G R.vs S hx v1 ?_)
 refine h.go env A P W F vm own s σ σ1 _ _ G Rm S R e1 fun kv P2 W2 F2 own2 s2 S2 T2 R2 r2 => ?_
 refine Xe r2 fun t q1 => ?_; subst q1
 haveI e3' := ownIAt_eq e3
 rw [v2.1, show own i = own2 i from addr_of R2 hi v1 e3' rfl (fun _ h => h.1) v2.1]
 refine Xeeaaaaa (R2.ownAt hi e3' rfl) fun z oz z1 z2 z3 w6 z6 z7 => ?_; refine Xea w6 fun kvs2 z4 z5 => ?_
 refine Xea (z5.at_some e4) fun w g1 g2 => ?_
 haveI hD : s2.heap.DictOf C.ki (own2 i) kvs2 := Heap.dictOf_iff.mpr ⟨oz, (S2.w _ _ z3).1, z4⟩
 haveI hm := Heap.DictOf.mapOf hD
 exact tail_any hm.typeIs slot_dict_getitem.lookup (wpAny_getItem_of (ki_is _ _) hm g1 (hQ _ P2 W2 F2 own2 _ (S2.toks _) T2 R2 g2)) (hs _ _)
noncomputable def fSetI (i : Nat) (fe fk : FnD) (σ : LS) : Option (Fl × LS) :=
 (fe σ).bind fun p => (ownIAt i p.2).bind fun _ => (fk p.2).bind fun q => (intD q.1).bind fun n => (ownIAt i q.2).bind fun es =>
   if es.length ≤ bigN then some (.next, q.2.set i (.ownI (putI es n p.1))) else none
theorem SOK_setI {x : Str} {px pos' pos : Pos} {ek e : Expr} {i : Nat} {fk fe : FnD} (hi : vars[i]? = some x) (hx : Rd sc x) (h1 : EOK C k sc vars ek fk) (h2 : EOK C k sc vars e fe)
   (hs : ∀ env, swapsWith e (some (.Subscript (.Name x px) ek pos')) pos.line env = pure false) :
   SOK C k sc vars (.Assign [.Subscript (.Name x px) ek pos'] e pos) (fSetI i fe fk) := by
 constructor
 intro env A P W F vm own s σ σ' d Q G fu Rm S R hf hQ
 unfold fSetI at hf
 refine bs2 hf fun de σ1 e1 hf => ?_
 refine bs1 hf fun es1 e3 hf => ?_
 refine bs2 hf fun dk σ2 e4 hf => ?_
 refine bs1 hf fun n e5 hf => ?_
 refine bs1 hf fun es e6 hf => ?_
 split at hf
 case isFalse => exact ns hf
 rename_i hbig
 nomatch hf, hQ
 obtain rfl : dk = .int n := intD_eq e5
 refine wpAny_Assign_Subscript (h2.go env A P W F vm own s σ σ1 _ _ G Rm S R e1 fun nv P1 W1 F1 own1 s1 S1 T1 R1 r1 => ?_) (hs env)
 refine Xeeaaa (R1.ownAt hi (ownIAt_eq e3) rfl) fun v o v1 v2 v3 _ => ?_
 refine read_name G R1.vs S1 hx v1 ?_
 refine h1.go env A P1 W1 F1 vm own1 s1 σ1 σ2 _ _ G Rm S1 R1 e4 fun kv P2 W2 F2 own2 s2 S2 T2 R2 r2 => ?_
 refine Xe r2 fun t q1 => ?_; subst q1
 have e6' := ownIAt_eq e6
 rw [v2.1, show own1 i = own2 i from addr_of R2 hi v1 e6' rfl (fun _ h => h.1) v2.1]
 refine Xeeaaaaa (R2.ownAt hi e6' rfl) fun z oz z1 z2 z3 w9 z6 z7 => ?_; refine Xea w9 fun kvs2 z4 z5 => ?_
 have hD : s2.heap.DictOf C.ki (own2 i) kvs2 := Heap.dictOf_iff.mpr ⟨oz, (S2.w _ _ z3).1, z4⟩
 have hl := z5.length
 refine wpAny_setItem_pairs (ki_is _ _) hD (fun h' D' hsb => ?_) (by rw [← hl, sizeLine_eq]; unfold bigN at hbig; lia)
 refine Xea (Heap.dictOf_iff.mp D') fun o' ho' hd' => ?_
 have r1' := Rep.mono T2.p _ r1
 exact hQ .next P2 _ F2 vm own2 _ (S2.setW z3 hsb ho') (T1.trans (T2.trans (step_set z6))) (R2.setOwn (sl := .ownI (putI es n de)) hi (by rw [e6']; rfl) z1 z2 rfl z6 (fun h => by cases h) ⟨_, hd', z5.put r1'⟩) rfl
theorem dict1 {ke ve : Expr} {dp : Pos} {E : Value → Shared → Prop} {Q : Value → Shared → Prop}
   (h : wpAny C.M A (eval ke env) (fun kv s₁ => wpAny C.M A (eval ve env) (fun vv s₂ => wpAny C.M A (dictSet s.heap.objs.size kv vv) (fun _ s₃ => Q (.ref s.heap.objs.size) s₃) E s₂) E s₁) E
     { s with heap := s.heap.push { cls := .type "dict", data := .dict #[] } }) : wpAny C.M A (eval (.Dict [some ke] [ve] dp) env) Q E s := by
 refine wpAny_Dict_any rfl rfl (by simp) (by simp) (pairTrees_cons_walk (wpAny_mono h (fun kv s1 h1 => wpAny_mono h1 (fun vv s2 h2 => pairTrees_nil_walk ?_) fun _ _ e => e) fun _ _ e => e))
 unfold storeAll
 show wpAny _ _ (forIn [(kv, vv)] _ _) _ _ _
 simp only [List.forIn_cons, List.forIn_nil]
 refine wpAny_bind (wpAny_bind (wpAny_mono h2 (fun _ s3 h3 => wpAny_pure (wpAny_pure h3)) fun _ _ e => e))
noncomputable def fDict1I (i : Nat) (fk fe : FnD) (σ : LS) : Option (Fl × LS) :=
 (fk σ).bind fun p => (intD p.1).bind fun n => (fe p.2).bind fun q => some (.next, q.2.set i (.ownI [(n, q.1)]))
noncomputable def fDict1T (fk fe : FnD) (σ : LS) : Option (D × LS) :=
 (fk σ).bind fun p => (keyD p.1).bind fun ks => (fe p.2).bind fun q => (intD q.1).bind fun n => some (.dT [(ks, n)], q.2)
theorem St.newR (S : St C P W s) (R : RelEnv C vars env σ P W F vm own) (o : Obj) : RelEnv C vars env σ P (W.upd s.heap.objs.size o) F vm own :=
 R.frameW (fun a oa _ e => by rw [Mp.upd_ne _ _ (by rintro rfl; rw [S.freshW] at e; cases e)]; exact e) (fun x c oa _ e => by rw [Mp.upd_ne _ _ (by rintro rfl; rw [S.freshW] at e; cases e)]; exact e) fun _ h => h
theorem EOK_dict1 {ke ve : Expr} {dp : Pos} {fk fe : FnD} (h1 : EOK C k sc vars ke fk) (h2 : EOK C k sc vars ve fe) : EOK C k sc vars (.Dict [some ke] [ve] dp) (fDict1T fk fe) := by
 constructor
 intro env A P W F vm own s σ σ' d Q G Rm S R hf hQ
 unfold fDict1T at hf
 refine bs2 hf fun dk σ1 e1 hf => ?_
 refine bs1 hf fun ks e2 hf => ?_
 refine bs2 hf fun de σ2 e3 hf => ?_
 refine bs1 hf fun n e4 hf => ?_
 nomatch hf, hQ
 obtain rfl : de = .int n := intD_eq e4
 haveI notF : ∀ {a : Addr}, (F a → W a ≠ none) → True := fun _ => trivial
 refine dict1 ?_
 have S0 := S.newW (tk := s.toks) (o := { cls := .type "dict", data := .dict #[] }) rfl
 haveI R0 := (S.newR R.cut { cls := .type "dict", data := .dict #[] })
 have nF : ¬ (F s.heap.objs.size ∧ (W s.heap.objs.size).isSome = true) := fun h => by rw [S.freshW] at h; cases h.2
 refine h1.go env A P _ _ vm own _ σ σ1 _ _ G Rm S0 R0 e1 fun kv P1 W1 F1 own1 s1 S1 T1 R1 r1 => ?_
 refine h2.go env A P1 W1 F1 vm own1 s1 σ1 σ2 _ _ G Rm S1 R1 e3 fun nv P2 W2 F2 own2 s2 S2 T2 R2 r2 => ?_
 have T12 := T1.trans T2
 refine Xe r2 fun t q1 => ?_; subst q1
 have w2 : W2 s.heap.objs.size = some { cls := .type "dict", data := .dict #[] } := T12.w _ _ (Mp.upd_self ..) nF
 refine Xeeeaaa (keyD_is e2 (Rep.mono T2.p _ r1)) fun a ok vs q3 p1 p2 p3 => ?_; subst q3
 refine Xea ((emptyT (C := C) (P := P2)).heap S2.p (S2.w _ _ w2).1) fun xs D1 D2 => ?_
 cases D2
 refine wpAny_dictSet_heap (ki_room0 Rm) (kt_is (S2.p _ _ p1) p2 p3) D1 (fun h' D' hsb => ?_) (by simp)
 refine Xeeeaaaaa D' fun o' dE' ep' ho' x1 x2 x3 x4 x5 => ?_
 rw [storedH_new rfl] at x3 x5
 haveI hT : TR C.prog C.w P2 [(ks, n)] [(ks, a, .int n t)] := .cons p1 p2 p3 .nil
 haveI hobj : IsDctT C P2 o' [(ks, n)] := ⟨_, dE', ep', x1, x2, x3, by rw [← hT.keys]; exact x5, hT⟩
 haveI S3 := S2.setW (tk := s2.toks + C.kt.draws ks) w2 hsb ho'
 haveI hle : P2.Le (P2.upd s.heap.objs.size o') := Mp.Le.upd (S2.w _ _ w2).2
 haveI S4 := S3.freeze (Mp.upd_self W2 _ o')
 have nF2 : ¬ F2 s.heap.objs.size := fun h => (T12.f _ h).elim nF fun q => by rw [Mp.upd_self] at q; cases q
 refine hQ _ _ (W2.del s.heap.objs.size) F2 own2 _ (S4.less fun b ob e => ?_) ⟨T12.p.trans hle, fun b ob e hn => ?_, fun b q => ?_⟩ ((R2.monoP hle).frameW (fun b ob hb e => ?_) (fun x c ob hc e => ?_) fun _ h => h) ⟨_, o', rfl, Mp.upd_self .., hobj.mono hle, S.big⟩
 · by_cases hb : b = s.heap.objs.size
   · subst hb; rw [Mp.del_self] at e; cases e
   · rw [Mp.del_ne _ hb] at e; rw [Mp.del_ne _ hb, Mp.upd_ne _ _ hb]; exact e
 · haveI hb : b ≠ s.heap.objs.size := by rintro rfl; rw [S.freshW] at e; cases e
   rw [Mp.del_ne _ hb]
   exact T12.w b ob (by rw [Mp.upd_ne _ _ hb]; exact e) fun q => hn q.1
 · rcases T12.f b q with h | h
   · exact .inl h.1
   · by_cases hb : b = s.heap.objs.size
     · subst hb; exact absurd q nF2
     · rw [Mp.upd_ne _ _ hb] at h; exact .inr h
 · rw [Mp.del_ne _ (by rintro rfl; exact nF2 hb)]; exact e
 · rw [Mp.del_ne _ ?_]; exact e
   rintro rfl
   refine Xea (R.vs.cel x _ hc) fun oc g1 g2 => ?_
   rw [S.freshW] at g1; cases g1
theorem SOK_new0 {x : Str} {px pos dp : Pos} {ke ve : Expr} {i : Nat} {fk fe : FnD} (hi : vars[i]? = some x) (hx : Sto sc x) (h1 : EOK C k sc vars ke fk) (h2 : EOK C k sc vars ve fe) :
   SOK C k sc vars (.Assign [.Name x px] (.Dict [some ke] [ve] dp) pos) (fDict1I i fk fe) := by
 constructor
 intro env A P W F vm own s σ σ' d Q G fu Rm S R hf hQ
 unfold fDict1I at hf
 refine bs2 hf fun dk σ1 e1 hf => ?_
 refine bs1 hf fun n e2 hf => ?_
 refine bs2 hf fun de σ2 e3 hf => ?_
 nomatch hf, hQ
 obtain rfl : dk = .int n := intD_eq e2
 refine wpAny_Assign_Name (dict1 ?_) rfl
 haveI S0 := S.newW (tk := s.toks) (o := { cls := .type "dict", data := .dict #[] }) rfl
 haveI R0 := (S.newR R.cut { cls := .type "dict", data := .dict #[] })
 have nF : ¬ (F s.heap.objs.size ∧ (W s.heap.objs.size).isSome = true) := fun h => by rw [S.freshW] at h; cases h.2
 refine h1.go env A P _ _ vm own _ σ σ1 _ _ G Rm S0 R0 e1 fun kv P1 W1 F1 own1 s1 S1 T1 R1 r1 => ?_
 refine h2.go env A P1 W1 F1 vm own1 s1 σ1 σ2 _ _ G Rm S1 R1 e3 fun nv P2 W2 F2 own2 s2 S2 T2 R2 r2 => ?_
 have T12 := T1.trans T2
 refine Xe r1 fun t q1 => ?_; subst q1
 have w2 : W2 s.heap.objs.size = some { cls := .type "dict", data := .dict #[] } := T12.w _ _ (Mp.upd_self ..) nF
 haveI hD : s2.heap.DictOf C.ki s.heap.objs.size [] := Heap.dictOf_iff.mpr ⟨_, (S2.w _ _ w2).1, emptyI⟩
 refine wpAny_dictSet_pairs (ki_is _ _) hD (fun h' D' hsb => ?_) (by simp)
 refine Xea (Heap.dictOf_iff.mp D') fun o' ho' hd' => ?_
 haveI S3 := S2.setW (tk := s2.toks + 1) w2 hsb ho'
 haveI nF2 : ¬ F2 s.heap.objs.size := fun h => (T12.f _ h).elim nF fun q => by rw [Mp.upd_self] at q; cases q
 haveI R3 : RelEnv C vars env σ2 P2 (W2.del s.heap.objs.size) F2 vm own2 := R2.frameW (fun b ob hb e => by rw [Mp.del_ne _ (by rintro rfl; exact nF2 hb)]; exact e) (fun x c ob hc e => by
   rw [Mp.del_ne _ ?_]; exact e
   rintro rfl
   refine Xea (R.vs.cel x _ hc) fun oc g1 g2 => ?_
   rw [S.freshW] at g1; cases g1) fun _ h => h
 haveI S4 : St C P2 ((W2.del s.heap.objs.size).upd s.heap.objs.size o') { s2 with heap := h', toks := s2.toks + 1 } := S3.less fun b ob e => by
   by_cases hb : b = s.heap.objs.size
   · subst hb; rw [Mp.upd_self] at e ⊢; exact e
   · rw [Mp.upd_ne _ _ hb, Mp.del_ne _ hb] at e; rw [Mp.upd_ne _ _ hb]; exact e
 refine set_new (sl := .ownI [(n, de)]) (b := s.heap.objs.size) G S4 (Mp.del_self ..) R3 hi (hx.at fu) rfl rfl ⟨rfl, S.big⟩ ⟨[(n, nv)], hd', ⟨nv, [], rfl, r2, rfl⟩⟩ fun W4 F4 vm4 own4 s4 S5 T5 R5 => ?_
 refine hQ .next P2 W4 F4 vm4 own4 s4 S5 ⟨T12.p, fun b ob e hn => ?_, fun b q => ?_⟩ R5 rfl
 · have hb : b ≠ s.heap.objs.size := by rintro rfl; rw [S.freshW] at e; cases e
   have hF2 : ¬ F2 b := fun q => (T12.f b q).elim (fun h => hn h.1) fun h => by rw [Mp.upd_ne _ _ hb, e] at h; cases h
   refine T5.w b ob ?_ hF2
   rw [Mp.del_ne _ hb]
   exact T12.w b ob (by rw [Mp.upd_ne _ _ hb]; exact e) fun q => hn q.1
 · by_cases hb : b = s.heap.objs.size
   · subst hb; exact .inr S.freshW
   · rcases T5.f b q with h | h
     · rcases T12.f b h with h | h
       · exact .inl h.1
       · rw [Mp.upd_ne _ _ hb] at h; exact .inr h
     · rw [Mp.del_ne _ hb] at h
       cases qW : W b with
       | none => exact .inr rfl
       | some ob =>
         by_cases hFb : F b
         · exact .inl hFb
         · haveI := T12.w b ob (by rw [Mp.upd_ne _ _ hb]; exact qW) fun q => hFb q.1
           rw [h] at this; cases this
end
section
variable {C : Cx} {vars : List Str} {env : Env} {sc : Scope} {σ : LS} {P P' W W' : Mp} {F : Addr → Prop} {vm : Str → Option Value} {own : Nat → Addr} {s : Shared} {A : Around} {k : Nat} {L : Addr} {α : Type}
structure TsOK (C : Cx) (k : Nat) (sc : Scope) (vars : List Str) (ifs : List Expr) (f : FnB) : Prop where
 go : ∀ (env : Env) (A : Around) (P W : Mp) (F : Addr → Prop) (vm : Str → Option Value) (own : Nat → Addr) (s : Shared) (σ σ' : LS) (d : Bool) (Q : Bool → Shared → Prop),
   EnvG sc env → Room k A → St C P W s → RelEnv C vars env σ P W F vm own → f σ = some (d, σ') →
   PostT C vars env P W F vm σ' (Q d) →
   wpAny C.M A (forIn ifs true fun c r => if r = true then do let ok ← isTrue c env (eval c env); pure (ForInStep.yield ok) else pure (ForInStep.yield r)) Q NoE s
theorem TsOK_nil : TsOK C k sc vars [] fAndN := by
 constructor
 intro env A P W F vm own s σ σ' d Q G Rm S R hf hQ
 nomatch hf, hQ
 exact wpAny_tests_nil (hQ P W F own s S (.refl ..) R)
theorem TsOK_one {c : Expr} {f : FnB} (h : TOK C k sc vars c f) : TsOK C k sc vars [c] f := by
 constructor
 intro env A P W F vm own s σ σ' d Q G Rm S R hf hQ
 exact wpAny_tests_one (h.go env A P W F vm own s σ σ' d _ G Rm S R hf hQ)
structure MOK (C : Cx) (k : Nat) (sc : Scope) (vars : List Str) (AR : Mp → α → Obj → Prop) (body : Env → Addr → Sem Unit) (m : α → LS → Option (α × LS)) : Prop where
 go : ∀ (env : Env) (A : Around) (P W : Mp) (F : Addr → Prop) (vm : Str → Option Value) (own : Nat → Addr) (s : Shared) (σ σ' : LS) (Dc : Addr) (o : Obj) (a a' : α) (Q : Unit → Shared → Prop),
   EnvG sc env → Room k A → St C P W s → RelEnv C vars env σ P W F vm own → W Dc = some o → AR P a o → ¬ F Dc → (∀ y c, env.cells.lookup y = some c → Dc ≠ c) → m a σ = some (a', σ') →
   (∀ P' W' F' vm' own' s' o', St C P' W' s' → P.Le P' → (∀ b ob, b ≠ Dc → ¬ F b → W b = some ob → W' b = some ob) → (∀ b, F' b → b ≠ Dc ∧ (F b ∨ W b = none)) → RelEnv C vars env σ' P' W' F' vm' own' → W' Dc = some o' → AR P' a' o' → Q () s') →
   wpAny C.M A (body env Dc) Q NoE s
noncomputable def fLoop (g : D → LS → Option (LS)) (ft : FnB) (m : α → LS → Option (α × LS)) : List D → α → LS → Option (α × LS)
 | [], a, σ => some (a, σ)
 | d :: ds, a, σ => (g d σ).bind fun σ1 => (ft σ1).bind fun p => if p.1 = true then (m a p.2).bind fun q => fLoop g ft m ds q.1 q.2 else fLoop g ft m ds a p.2
noncomputable def TurnIs (e : Expr) (depth : Nat) (tgt iter : Expr) (ifs : List Expr) (body : Env → Addr → Sem Unit) : Prop :=
 ∀ (it : Value) (Dc : Addr) (env : Env), compTurn e depth it (.ref Dc) env = (do
     standAt iter.pos
     match ← pyNext it with
     | none => pure (.done .next)
     | some v =>
       letOwnedTupleGo tgt it v
       assign tgt env v
       let ok ← forIn ifs true fun c r => if r = true then do let ok ← isTrue c env (eval c env); pure (ForInStep.yield ok) else pure (ForInStep.yield r)
       if ok = true then (do body env Dc; again (.compLoop e depth it (.ref Dc) env)) else again (.compLoop e depth it (.ref Dc) env))
inductive LoopI (C : Cx) (vars : List Str) (env : Env) (AR : Mp → α → Obj → Prop) (P W : Mp) (F : Addr → Prop) (Dc : Addr) (ia : Addr → Prop) (J : List D → Mp → Mp → Prop) (go : List D → α → LS → Option (α × LS)) (r : α × LS) (n : Nat) (s' : Shared) : Prop
 | mk (P2 : _) (W2 : _) (F2 : _) (vm2 : _) (own2 : _) (σ2 : _) (ds2 : _) (a2 : _) (o2 : _) (h0 : n = ds2.length) (h1 : St C P2 W2 s') (h2 : P.Le P2) (h3 : (∀ b ob, b ≠ Dc → ¬ F b → ¬ ia b → W b = some ob → W2 b = some ob)) (h4 : (∀ b, F2 b → b ≠ Dc ∧ ¬ ia b ∧ (F b ∨ W b = none))) (h5 : RelEnv C vars env σ2 P2 W2 F2 vm2 own2) (h6 : J ds2 P2 W2) (h7 : W2 Dc = some o2) (h8 : AR P2 a2 o2) (h9 : go ds2 a2 σ2 = some r) : LoopI C vars env AR P W F Dc ia J go r n s'
theorem loopM {e tgt iter : Expr} {depth : Nat} {ifs : List Expr} {it : Value} {ia : Addr → Prop} {J : List D → Mp → Mp → Prop} {g : D → LS → Option (LS)} {ft : FnB} {AR : Mp → α → Obj → Prop}
   {body : Env → Addr → Sem Unit} {m : α → LS → Option (α × LS)} {Dc : Addr} {ds : List D} {a a' : α} {σ' : LS} {o : Obj} {Rr : Result → Shared → Prop} (I : ItS C tgt it ia J) (hg : GOK C false k sc vars tgt g) (ht : TsOK C k sc vars ifs ft) (hm : MOK C k sc vars AR body m)
   (hAR : ∀ {P P' : Mp} {a : α} {o : Obj}, P.Le P' → AR P a o → AR P' a o)
   (eT : TurnIs e depth tgt iter ifs body) (hden : ∀ A' : Around, C.M.den (.compLoop e depth it (.ref Dc) env) = (compTurn e depth it (.ref Dc) env).onRaise (fun x => do noteFrame x env; theTreesLotGoes x)) (hq : (Code.compLoop e depth it (.ref Dc) env).quiet = true)
   (hun : A.under (.compLoop e depth it (.ref Dc) env) = A)
   (G : EnvG sc env) (Rm : Room k A) (S : St C P W s) (R : RelEnv C vars env σ P W F vm own) (hD : W Dc = some o) (ha : AR P a o) (hDF : ¬ F Dc) (hDc : ∀ y c, env.cells.lookup y = some c → Dc ≠ c) (j : J ds P W) (hia : ∀ b, ia b → ¬ F b ∧ b ≠ Dc) (hic : ∀ b, ia b → ∀ y c, env.cells.lookup y = some c → b ≠ c)
   (hf : fLoop g ft m ds a σ = some (a', σ'))
   (hR : ∀ P2 W2 F2 vm2 own2 s2 o2, St C P2 W2 s2 → P.Le P2 → (∀ b ob, b ≠ Dc → ¬ F b → ¬ ia b → W b = some ob → W2 b = some ob) → (∀ b, F2 b → b ≠ Dc ∧ ¬ ia b ∧ (F b ∨ W b = none)) → RelEnv C vars env σ' P2 W2 F2 vm2 own2 → W2 Dc = some o2 → AR P2 a' o2 → Rr (.ok .next) s2) :
   codeAny C.M A (.compLoop e depth it (.ref Dc) env) Rr s := by
 refine codeAny_loop hq (LoopI C vars env AR P W F Dc ia J (fLoop g ft m) (a', σ')) (fun n s' hI => ?_) ds.length ⟨P, W, F, vm, own, σ, ds, a, o, rfl, S, .refl _, fun _ _ _ _ _ e => e, fun b h => ⟨by rintro rfl; exact hDF h, fun q => (hia b q).1 h, .inl h⟩, R, j, hD, ha, hf⟩
 obtain ⟨P2, W2, F2, vm2, own2, σ2, ds2, a2, o2, hn, S2, hP2, hW2, hF2, R2, j2, hD2, ha2, h2⟩ := hI
 rw [hden A, hun]
 refine wpAny_noted ?_
 rw [eT]
 refine wpAny_bind (wpAny_standAt (wpAny_bind ?_))
 cases ds2 with
 | nil =>
   cases h2
   refine wpAny_mono (I.nil A P2 W2 s' (fun r s3 => r = none ∧ Rr (.ok .next) s3) Rm.1 j2 S2 fun W3 s3 S3 hW => ⟨rfl, ?_⟩) (fun r s3 h => by obtain ⟨rfl, h⟩ := h; exact wpAny_pure h) (fun _ _ h => h.elim)
   refine hR P2 W3 F2 vm2 own2 s3 o2 S3 hP2 (fun b ob h1 h2 h3 h4 => (hW b h3).trans (hW2 b ob h1 h2 h3 h4)) hF2 (R2.iter hW (fun b hb h => (hF2 b h).2.1 hb) hic) ((hW Dc fun h => (hia _ h).2 rfl).trans hD2) ha2
 | cons d2 ds2 =>
   unfold fLoop at h2
   refine bs1 h2 fun σ3 e3 h3 => ?_
   refine bs2 h3 fun tb σ4 e4 h4 => ?_
   have again_ok : ∀ (P5 W5 : Mp) (F5 : Addr → Prop) (vm5 : Str → Option Value) (own5 : Nat → Addr) (σ5 : LS) (a5 : α) (o5 : Obj) (s5 : Shared), St C P5 W5 s5 → P2.Le P5 → (∀ b ob, b ≠ Dc → ¬ F b → ¬ ia b → W b = some ob → W5 b = some ob) → (∀ b, F5 b → b ≠ Dc ∧ ¬ ia b ∧ (F b ∨ W b = none)) →
       RelEnv C vars env σ5 P5 W5 F5 vm5 own5 → J ds2 P5 W5 → W5 Dc = some o5 → AR P5 a5 o5 → fLoop g ft m ds2 a5 σ5 = some (a', σ') → ∃ m', m' < n ∧ LoopI C vars env AR P W F Dc ia J (fLoop g ft m) (a', σ') m' s5 := fun P5 W5 F5 vm5 own5 σ5 a5 o5 s5 S5 hP5 hW5 hF5 R5 j5 hD5 ha5 h5 =>
     ⟨ds2.length, by rw [hn, List.length_cons]; exact Nat.lt_succ_self _, P5, W5, F5, vm5, own5, σ5, ds2, a5, o5, rfl, S5, hP2.trans hP5, hW5, hF5, R5, j5, hD5, ha5, h5⟩
   refine wpAny_mono (I.cons A P2 W2 s' d2 ds2 (fun v s2 => wpAny C.M A (assign tgt env v) (fun _ s₂ => wpAny C.M A (forIn ifs true fun c r => if r = true then do let ok ← isTrue c env (eval c env); pure (ForInStep.yield ok) else pure (ForInStep.yield r))
     (fun okb s₃ => if okb = true then wpAny C.M A (body env Dc) (fun _ s₄ => ∃ m', m' < n ∧ LoopI C vars env AR P W F Dc ia J (fLoop g ft m) (a', σ') m' s₄) NoE s₃ else ∃ m', m' < n ∧ LoopI C vars env AR P W F Dc ia J (fLoop g ft m) (a', σ') m' s₃) NoE s₂) NoE s2) Rm.1 j2 S2 fun v P3 W3 s3 hP S3 hW r3 j3 => ?_) (fun r s1 h => ?_) (fun _ _ h => h.elim)
   · have hW3 : ∀ b ob, b ≠ Dc → ¬ F b → ¬ ia b → W b = some ob → W3 b = some ob := fun b ob h1 h2 h3 h4 => (hW b h3).trans (hW2 b ob h1 h2 h3 h4)
     haveI R3 := (R2.monoP hP).iter hW (fun b hb h => (hF2 b h).2.1 hb) hic
     have hD3 : W3 Dc = some o2 := (hW Dc fun h => (hia _ h).2 rfl).trans hD2
     refine hg.go env A P3 W3 F2 vm2 own2 s3 σ2 σ3 d2 v _ G (fun h => by cases h) Rm S3 R3 r3 e3 fun W4 vm4 own4 s4 S4 T4 R4 => ?_
     haveI nF : ∀ b, F2 b → b ≠ Dc ∧ ¬ ia b ∧ (F b ∨ W b = none) := hF2
     have hasW : ∀ {W9 : Mp} {F9 : Addr → Prop} {P8 W8 P9 : Mp}, (∀ b ob, b ≠ Dc → ¬ F b → ¬ ia b → W b = some ob → W8 b = some ob) → J ds2 P8 W8 → (∃ ob, W8 Dc = some ob) → Step P8 W8 F2 P9 W9 F9 → ∀ b, F9 b → b ≠ Dc ∧ ¬ ia b ∧ (F b ∨ W b = none) := fun {W9 F9 P8 W8 P9} hw hj hd T b hb => by
       rcases T.f b hb with h | h
       · exact hF2 b h
       · refine ⟨(by rintro rfl; refine Xe hd fun ob q => ?_; rw [q] at h; cases h), fun q => ?_, ?_⟩
         · refine Xe (I.has _ _ _ b hj q) fun ob q' => ?_; rw [q'] at h; cases h
         · by_cases hFb : F b
           · exact .inl hFb
           · right
             cases q : W b with
             | none => rfl
             | some ob =>
               by_cases hbD : b = Dc
               · subst hbD; refine Xe hd fun ob q => ?_; rw [q] at h; cases h
               by_cases hib : ia b
               · refine Xe (I.has _ _ _ b hj hib) fun ob q' => ?_; rw [q'] at h; cases h
               · haveI := hw b ob hbD hFb hib q; rw [h] at this; cases this
     have hnF2 : ∀ b ob, b ≠ Dc → ¬ F b → ¬ ia b → W b = some ob → ¬ F2 b := fun b ob h1 h2 h3 h4 h => (hF2 b h).2.2.elim h2 fun q => by rw [h4] at q; cases q
     have hW4 : ∀ b ob, b ≠ Dc → ¬ F b → ¬ ia b → W b = some ob → W4 b = some ob := fun b ob h1 h2 h3 h4 => T4.w b ob (hW3 b ob h1 h2 h3 h4) (hnF2 b ob h1 h2 h3 h4)
     have hD4 : W4 Dc = some o2 := T4.w _ _ hD3 fun h => (hF2 _ h).1 rfl
     have j4 := I.keep _ _ _ _ _ j3 (.refl _) fun b ob hi eb => T4.w b ob eb fun h => (hF2 b h).2.1 hi
     refine ht.go env A P3 W4 F2 vm4 own4 s4 σ3 σ4 tb _ G Rm S4 R4 e4 fun P5 W5 F5 own5 s5 S5 T5 R5 => ?_
     have hW5 : ∀ b ob, b ≠ Dc → ¬ F b → ¬ ia b → W b = some ob → W5 b = some ob := fun b ob h1 h2 h3 h4 => T5.w b ob (hW4 b ob h1 h2 h3 h4) (hnF2 b ob h1 h2 h3 h4)
     have hD5 : W5 Dc = some o2 := T5.w _ _ hD4 fun h => (hF2 _ h).1 rfl
     have j5 := I.keep _ _ _ _ _ j4 T5.p fun b ob hi eb => T5.w b ob eb fun h => (hF2 b h).2.1 hi
     have hF5 := hasW hW4 j4 ⟨_, hD4⟩ T5
     have ha5 : AR P5 a2 o2 := hAR (hP.trans T5.p) ha2
     cases tb with
     | false => exact again_ok P5 W5 F5 vm4 own5 σ4 a2 o2 s5 S5 (hP.trans T5.p) hW5 hF5 R5 j5 hD5 ha5 h4
     | true =>
       refine bs2 h4 fun a6 σ6 e6 h6 => ?_
       refine hm.go env A P5 W5 F5 vm4 own5 s5 σ4 σ6 Dc o2 a2 a6 _ G Rm S5 R5 hD5 ha5 (fun h => (hF5 _ h).1 rfl) hDc e6 fun P7 W7 F7 vm7 own7 s7 o7 S7 hP7 hW7 hF7 R7 hD7 ha7 => ?_
       have nF5 : ∀ b ob, b ≠ Dc → ¬ F b → ¬ ia b → W b = some ob → ¬ F5 b := fun b ob h1 h2 h3 h4 h => (hF5 b h).2.2.elim h2 fun q => by rw [h4] at q; cases q
       refine again_ok P7 W7 F7 vm7 own7 σ6 a6 o7 s7 S7 (hP.trans (T5.p.trans hP7)) (fun b ob h1 h2 h3 h4 => hW7 b ob h1 (nF5 b ob h1 h2 h3 h4) (hW5 b ob h1 h2 h3 h4)) (fun b hb => ?_) R7 (I.keep _ _ _ _ _ j5 hP7 fun b ob hi eb => hW7 b ob (hia b hi).2 (fun h => (hF5 b h).2.1 hi) eb) hD7 ha7 h6
       refine Xa (hF7 b hb) fun q1 q2 => ?_
       rcases q2 with h | h
       · exact hF5 b h
       · refine ⟨q1, fun q => ?_, ?_⟩
         · refine Xe (I.has _ _ _ b j5 q) fun ob q' => ?_; rw [q'] at h; cases h
         · by_cases hFb : F b
           · exact .inl hFb
           · right
             cases q : W b with
             | none => rfl
             | some ob =>
               by_cases hib : ia b
               · refine Xe (I.has _ _ _ b j5 hib) fun ob q' => ?_; rw [q'] at h; cases h
               · have := hW5 b ob q1 hFb hib q; rw [h] at this; cases this
   · obtain ⟨v, rfl, h⟩ := h
     refine wpAny_bind (wpAny_mono h (fun _ s2 h => wpAny_bind (wpAny_mono h (fun _ s3 h => wpAny_bind (wpAny_mono h (fun okb s4 h => ?_) fun _ _ h => h.elim)) fun _ _ h => h.elim)) fun _ _ h => h.elim)
     cases okb with
     | false => exact wpAny_pure ⟨rfl, h⟩
     | true => exact wpAny_bind (wpAny_mono h (fun _ s5 h => wpAny_pure ⟨rfl, h⟩) fun _ _ h => h.elim)
end
section
variable {C : Cx} {vars : List Str} {env : Env} {sc : Scope} {σ : LS} {P P' W W' : Mp} {F : Addr → Prop} {vm : Str → Option Value} {own : Nat → Addr} {s : Shared} {A : Around} {k : Nat} {L : Addr} {α : Type}
noncomputable def LR (C : Cx) (P : Mp) (ys : List D) (o : Obj) : Prop := ∃ us, IsLst o us ∧ Reps C P ys us
theorem LR.mono {ys : List D} {o : Obj} (h : P.Le P') : LR C P ys o → LR C P' ys o := fun ⟨us, a, b⟩ => ⟨us, a, Reps.mono h _ b⟩
noncomputable def fEmit (f : FnD) (ys : List D) (σ : LS) : Option (List D × LS) := (f σ).bind fun q => if ys.length ≤ bigN then some (ys ++ [q.1], q.2) else none
theorem MOK_list {elt : Expr} {f : FnD} (h : EOK C k sc vars elt f) :
   MOK C k sc vars (LR C) (fun env Dc => do let _ ← call (.builtin "list.append") [.ref Dc, ← eval elt env]) (fEmit f) := by
 constructor
 intro env A P W F vm own s σ σ' Dc o a a' Q G Rm S R hD ha hDF hDc hf hQ
 unfold fEmit at hf
 refine bs2 hf fun d σ1 e1 hf => ?_
 dsimp only at hf
 split at hf
 case isFalse => exact ns hf
 rename_i hl
 nomatch hf, hQ
 refine wpAny_bind (h.go env A P W F vm own s σ _ d _ G Rm S R e1 fun u P1 W1 F1 own1 s1 S1 T1 R1 r1 => wpAny_bind ?_)
 have w1 : W1 Dc = some o := T1.w _ _ hD hDF
 refine Xea ha fun us q1 q2 => ?_
 refine Xe (q1.exact (S1.w _ _ w1).1) fun n q => ?_
 have nF1 : ¬ F1 Dc := fun h => (T1.f _ h).elim hDF fun q => by rw [hD] at q; cases q
 refine append_at q (fun h' hsb hg => wpAny_pure ?_) (by rw [List.size_toArray, ← q2.length, sizeLine_eq]; unfold bigN at hl; lia)
 have ne : ∀ {b : Addr} {ob : Obj}, ¬ b = Dc → W1 b = some ob → (W1.upd Dc { cls := .type "list", dict := none, data := .seq (us.toArray.push u) (n + 1), slots := #[] }) b = some ob := fun hb e => by rw [Mp.upd_ne _ _ hb]; exact e
 refine hQ P1 (W1.upd Dc _) F1 vm own1 _ _ (S1.setW (tk := s1.toks) w1 hsb hg) T1.p (fun b ob hb hF e => ne hb (T1.w b ob e hF)) (fun b hb => ⟨fun e => nF1 (e ▸ hb), T1.f b hb⟩)
   (R1.frameW (fun b ob hb e => ne (fun q => nF1 (q ▸ hb)) e) (fun x c ob hc e => ne (fun q => hDc x c hc q.symm) e) fun _ h => h) (Mp.upd_self ..) ⟨us ++ [u], ⟨n + 1, by simp⟩, (Reps.mono T1.p _ q2).append (Reps.one r1)⟩
noncomputable def fEmitD (fk fe : FnD) (es : LT) (σ : LS) : Option (LT × LS) :=
 (fk σ).bind fun p => (keyD p.1).bind fun ks => (fe p.2).bind fun q => (intD q.1).bind fun n => if atT es ks = none ∧ es.length ≤ bigN then some (es ++ [(ks, n)], q.2) else none
theorem MOK_dict {kx vx : Expr} {fk fe : FnD} (h1 : EOK C k sc vars kx fk) (h2 : EOK C k sc vars vx fe) :
   MOK C k sc vars (fun P es o => IsDctT C P o es) (fun env Dc => do
       let kv ← eval kx env
       let vv ← holding [kv] (eval vx env)
       standAt { kx.pos with endLine := vx.pos.endLine, endCol := vx.pos.endCol }
       holding [kv, vv] (dictSet Dc kv vv)) (fEmitD fk fe) := by
 constructor
 intro env A P W F vm own s σ σ' Dc o a a' Q G Rm S R hD ha hDF hDc hf hQ
 unfold fEmitD at hf
 refine bs2 hf fun dk σ1 e1 hf => ?_
 refine bs1 hf fun ks e2 hf => ?_
 refine bs2 hf fun de σ2 e3 hf => ?_
 refine bs1 hf fun n e4 hf => ?_
 split at hf
 case isFalse => exact ns hf
 rename_i hnew
 nomatch hf, hQ
 obtain rfl : de = .int n := intD_eq e4
 refine wpAny_bind (h1.go env A P W F vm own s σ _ _ _ G Rm S R e1 fun kv P1 W1 F1 own1 s1 S1 T1 R1 r1 => wpAny_bind (wpAny_holding ?_))
 refine h2.go env A P1 W1 F1 vm own1 s1 _ _ _ _ G Rm S1 R1 e3 fun vv P2 W2 F2 own2 s2 S2 T2 R2 r2 => wpAny_bind (wpAny_standAt (wpAny_holding ?_))
 have T12 := T1.trans T2
 refine Xe r2 fun t q1 => ?_; subst q1
 have w2 : W2 Dc = some o := T12.w _ _ hD hDF
 have nF2 : ¬ F2 Dc := fun h => (T12.f _ h).elim hDF fun q => by rw [hD] at q; cases q
 refine Xeeeaaa (keyD_is e2 (Rep.mono T2.p _ r1)) fun ad ok vs q3 p1 p2 p3 => ?_; subst q3
 refine Xea ((ha.mono T12.p).heap S2.p (S2.w _ _ w2).1) fun xs D1 D2 => ?_
 have hlen : xs.length = a.length := by have := congrArg List.length D2.keys; simpa using this
 refine wpAny_dictSet_heap (ki_room0 Rm) (kt_is (S2.p _ _ p1) p2 p3) D1 (fun h' D' hsb => ?_) (by rw [hlen, sizeLine_eq]; have := hnew.2; unfold bigN at this; lia)
 refine Xeeeaaaaa D' fun o' dE' ep' ho' x1 x2 x3 x4 x5 => ?_
 rw [storedH_new (D2.at_none hnew.1)] at x3 x5
 haveI hobj : IsDctT C P2 o' (a ++ [(ks, n)]) := ⟨_, dE', ep', x1, x2, x3, by rw [← (D2.snoc (n := n) (t := t) p1 p2 p3).keys]; exact x5, D2.snoc p1 p2 p3⟩
 have ne : ∀ {b : Addr} {ob : Obj}, ¬ b = Dc → W2 b = some ob → (W2.upd Dc o') b = some ob := fun hb e => by rw [Mp.upd_ne _ _ hb]; exact e
 exact hQ P2 (W2.upd Dc o') F2 vm own2 _ o' (S2.setW w2 hsb ho') T12.p (fun b ob hb hF e => ne hb (T12.w b ob e hF)) (fun b hb => ⟨fun e => nF2 (e ▸ hb), T12.f b hb⟩)
   (R2.frameW (fun b ob hb e => ne (fun q => nF2 (q ▸ hb)) e) (fun x c ob hc e => ne (fun q => hDc x c hc q.symm) e) fun _ h => h) (Mp.upd_self ..) hobj
noncomputable def relS (scope sc : Scope) : Scope :=
 { scope with names := scope.names.map fun (n, k) => if (k == .free && sc.kind == .function && sc.names.lookup n == some .cell) then (n, .cell) else (n, k) }
theorem relabel_eq {scope : Scope} (G : EnvG sc env) : relabel scope env = relS scope sc := by
 unfold relabel relS
 rw [G.e]
 have : ∀ n, env.kindOf n = sc.names.lookup n := G.kindOf
 simp only [this]
structure CsOK (scope sc : Scope) (vars tg : List Str) (fr : List (Str × Nat)) : Prop where
 kind : scope.kind = .function
 nocell : ∀ x ∈ scope.names, x.2 ≠ .cell
 locals : ∀ x ∈ scope.names, x.2 = .local → scope.names.lookup x.1 = some .local
 frees : ∀ x ∈ scope.names, x.2 = .free → scope.names.lookup x.1 = some .free ∧ sc.names.lookup x.1 = some .cell
 nd : (tg ++ fr.map (·.1)).Nodup
 tgL : ∀ x ∈ tg, scope.names.lookup x ≠ some .free
 frI : ∀ p ∈ fr, vars[p.2]? = some p.1 ∧ scope.names.lookup p.1 = some .free
noncomputable def clOf (env : Env) : List (Str × NameKind) → List (Str × Addr) → List (Str × Addr)
 | [], cs => cs
 | (x, kd) :: r, cs => clOf env r (if (kd == NameKind.free) = true then (match env.cells.lookup x with | some c => (x, c) :: cs | none => cs) else cs)
theorem closureFor_eq {scope : Scope} (h : ∀ x ∈ scope.names, x.2 = .free → ∃ c, env.cells.lookup x.1 = some c) : closureFor scope env = pure (clOf env scope.names []) := by
 have key : ∀ (l : List (Str × NameKind)) (cs : List (Str × Addr)), (∀ x ∈ l, x.2 = .free → ∃ c, env.cells.lookup x.1 = some c) →
     (forIn l cs fun (x : Str × NameKind) cs => (if (x.2 == NameKind.free) = true then do let a ← cellOf env x.1; pure (ForInStep.yield ((x.1, a) :: cs)) else pure (ForInStep.yield cs) : Sem (ForInStep (List (Str × Addr))))) = pure (clOf env l cs) := by
   intro l
   induction l with
   | nil => intro cs _; rfl
   | cons x r ih =>
     intro cs hl
     obtain ⟨x, kd⟩ := x
     rw [List.forIn_cons]
     unfold clOf
     by_cases hk : (kd == NameKind.free) = true
     · refine Xe (hl (x, kd) (.head _) (eq_of_beq hk)) fun c hc => ?_
       simp only [hk, if_true]
       have hc' : env.cells.lookup x = some c := hc
       unfold cellOf
       rw [hc']
       exact ih _ fun y hy => hl y (.tail _ hy)
     · simp only [hk]
       exact ih _ fun y hy => hl y (.tail _ hy)
 have := key scope.names [] h
 show (forIn scope.names [] _ >>= fun cs => pure cs) = _
 rw [bind_pure]
 exact this
theorem clOf_mem : ∀ (l : List (Str × NameKind)) (cs : List (Str × Addr)) {x : Str} {c : Addr}, (x, c) ∈ clOf env l cs → (x, c) ∈ cs ∨ ((x, NameKind.free) ∈ l ∧ env.cells.lookup x = some c)
 | [], _, _, _, h => .inl h
 | (y, kd) :: r, cs, x, c, h => by
   unfold clOf at h
   rcases clOf_mem r _ h with h | h
   · split at h
     · rename_i hk
       split at h
       · rename_i c' hc'
         rcases List.mem_cons.mp h with e | h
         · cases e; exact .inr ⟨by rw [eq_of_beq hk]; exact .head _, hc'⟩
         · exact .inl h
       · exact .inl h
     · exact .inl h
   · exact .inr ⟨.tail _ h.1, h.2⟩
theorem clOf_has : ∀ (l : List (Str × NameKind)) (cs : List (Str × Addr)) {x : Str} {c : Addr}, ((x, NameKind.free) ∈ l ∧ env.cells.lookup x = some c) ∨ (∃ c', (x, c') ∈ cs) → ∃ c', (x, c') ∈ clOf env l cs
 | [], _, _, _, h => by
   rcases h with h | h
   · cases h.1
   · exact h
 | (y, kd) :: r, cs, x, c, h => by
   unfold clOf
   refine clOf_has (c := c) r _ ?_
   rcases h with h | ⟨c', h⟩
   · rcases List.mem_cons.mp h.1 with e | h'
     · cases e
       right
       simp only [beq_self_eq_true, if_true, h.2]
       exact ⟨c, .head _⟩
     · exact .inl ⟨h', h.2⟩
   · right
     split
     · split
       · exact ⟨c', .tail _ h⟩
       · exact ⟨c', h⟩
     · exact ⟨c', h⟩
end
section
variable {C : Cx} {vars : List Str} {env : Env} {sc : Scope} {σ : LS} {P P' W W' : Mp} {F : Addr → Prop} {vm : Str → Option Value} {own : Nat → Addr} {s : Shared} {A : Around} {k : Nat} {L : Addr} {α : Type}
noncomputable def fFree (tg : List Str) (fr : List (Str × Nat)) (σ : LS) : Option (LS) :=
 if (fr.all fun p => !(σ.getD p.2 .non).own) = true then some (tg.map (fun _ => Slot.non) ++ fr.map fun p => σ.getD p.2 Slot.non) else none
theorem relS_kind {scope sc : Scope} {x : Str} {kd : NameKind} (h : (relS scope sc).names.lookup x = some kd) : (x, kd) ∈ scope.names ∨ (kd = .cell ∧ (x, NameKind.free) ∈ scope.names) := by
 haveI := PySem.mem_of_lookup h
 refine Xea (List.mem_map.mp this) fun w1 hm e => ?_; obtain ⟨n, k0⟩ := w1
 dsimp only at e
 split at e
 · rename_i hc
   cases e
   simp only [Bool.and_eq_true, beq_iff_eq] at hc
   exact .inr ⟨rfl, by rw [← hc.1.1]; exact hm⟩
 · cases e; exact .inl hm
theorem comp_env {scope : Scope} {tg : List Str} {fr : List (Str × Nat)} {σ0 : LS} {Cl : Addr} {oL : Obj} {es : Array DictEntry} {ep : Nat} {cl : List (Str × Addr)} (X : CsOK scope sc vars tg fr) (G : EnvG sc env) (R : RelEnv C vars env σ P W F vm own) (hcl : cl = clOf env scope.names [])
   (hW : ∀ x c o, env.cells.lookup x = some c → W c = some o → W' c = some o) (hL : W' Cl = some oL) (hd : oL.data = .dict es ep) (hk : StrKeys es) (he : ∀ x, nsFind es x = none) (hf : fFree tg fr σ = some σ0) :
   EnvG (relS scope sc) (compEnvC scope cl Cl env) ∧ RelEnv C (tg ++ fr.map (·.1)) (compEnvC scope cl Cl env) σ0 P W' (fun a => a = Cl) (fun x => if scope.names.lookup x = some .free then vm x else none) (fun _ => 0) := by
 have kO : ∀ x, (compEnvC scope cl Cl env).kindOf x = (relS scope sc).names.lookup x := fun x => by unfold Env.kindOf; rw [← relabel_eq G]; rfl
 have clm : ∀ {x c}, cl.lookup x = some c → (x, NameKind.free) ∈ scope.names ∧ env.cells.lookup x = some c := fun {x c} h => by
   subst hcl
   rcases clOf_mem _ _ (PySem.mem_of_lookup h) with h | h
   · cases h
   · exact h
 haveI celD : ∀ {x : Str}, (x, NameKind.free) ∈ scope.names → ∃ c, env.cells.lookup x = some c := fun {x} h => R.vs.celE x (.inl (by rw [G.kindOf]; exact (X.frees _ h rfl).2))
 unfold fFree at hf
 split at hf
 case isFalse => exact ns hf
 rename_i hown
 cases hf
 have nown : ∀ p ∈ fr, (σ.getD p.2 .non).own = false := fun p hp => by simpa using List.all_eq_true.mp hown p hp
 have own0 : ∀ i, ((tg.map (fun _ => Slot.non) ++ fr.map fun p => σ.getD p.2 Slot.non).getD i .non).own = false := fun i => by
   cases q : (tg.map (fun _ => Slot.non) ++ fr.map fun p => σ.getD p.2 Slot.non)[i]? with
   | none => rw [List.getD, q]; rfl
   | some y =>
     rw [List.getD, q]
     rcases List.mem_append.mp (List.mem_of_getElem? q) with h | h
     · refine Xea (List.mem_map.mp h) fun d _ q2 => ?_; subst q2; rfl
     · refine Xea (List.mem_map.mp h) fun p hp q2 => ?_; subst q2; exact nown p hp
 refine ⟨⟨relabel_eq G, X.kind, G.g, G.b⟩, ⟨⟨⟨oL, es, ep, hL, hd, hk, fun x hx => ?_⟩, rfl, fun x c hc => ?_, fun h => (by cases h), fun x c hc => ?_, fun x hx => ?_, fun x y c hx hy => ?_⟩, X.nd, by simp, fun i x hx => ?_, fun i hi => ?_, fun i j _ hi => ?_⟩⟩
 · rw [he]
   rw [kO] at hx
   rw [if_neg]
   intro hfree
   rcases relS_kind hx with h | h
   · rw [X.locals _ h rfl] at hfree; cases hfree
   · cases h.1
 · refine Xa (clm hc) fun h1 h2 => ?_
   refine Xea (R.vs.cel x c h2) fun o g1 g2 => ?_
   exact ⟨o, hW x c o h2 g1, by rw [g2, if_pos (X.frees _ h1 rfl).1]⟩
 · refine Xa (clm hc) fun h1 h2 => ?_
   rw [kO]
   intro hl
   rcases relS_kind hl with h | h
   · have := X.locals _ h rfl
     rw [(X.frees _ h1 rfl).1] at this; cases this
   · cases h.1
 · have : (x, NameKind.free) ∈ scope.names := by
     rcases hx with hx | hx <;> rw [kO] at hx <;> rcases relS_kind hx with h | h
     · exact absurd rfl (X.nocell _ h)
     · exact h.2
     · exact h
     · cases h.1
   refine Xe (celD this) fun c hc => ?_
   refine Xe (clOf_has (env := env) scope.names [] (.inl ⟨this, hc⟩)) fun c' hc' => ?_
   subst hcl
   exact lookup_of_mem_key hc'
 · exact R.vs.celD x y c (clm hx).2 (clm hy).2
 · by_cases hi : i < tg.length
   · rw [List.getElem?_append_left hi] at hx
     have : (tg.map (fun _ => Slot.non) ++ fr.map fun p => σ.getD p.2 Slot.non).getD i .non = .non := by
       rw [List.getD, List.getElem?_append_left (by simpa using hi), List.getElem?_map, List.getElem?_eq_getElem hi]; rfl
     rw [this]; trivial
   · rw [List.getElem?_append_right (by omega), List.getElem?_map] at hx
     obtain ⟨p, hp, rfl⟩ := msm hx
     haveI : (tg.map (fun _ => Slot.non) ++ fr.map fun p => σ.getD p.2 Slot.non).getD i .non = σ.getD p.2 .non := by
       rw [List.getD, List.getElem?_append_right (by simp; omega), List.length_map, List.getElem?_map, hp]; rfl
     rw [this]
     refine Xa (X.frI p (List.mem_of_getElem? hp)) fun q1 q2 => ?_
     haveI sl := R.sl p.2 p.1 q1
     have no := nown p (List.mem_of_getElem? hp)
     rw [if_pos q2]
     cases hs : σ.getD p.2 .non with
     | non => trivial
     | val d => rw [hs] at sl; exact sl
     | _ => rw [hs] at no; cases no
 · rw [own0] at hi; cases hi
 · rw [own0] at hi; cases hi
theorem comp_run {e tgt iter : Expr} {ifs : List Expr} {scope : Scope} {it : Value} {ia : Addr → Prop} {J : List D → Mp → Mp → Prop} {g : D → LS → Option (LS)} {ft : FnB} {AR : Mp → α → Obj → Prop}
   {body : Env → Addr → Sem Unit} {m : α → LS → Option (α × LS)} {ds : List D} {a0 a' : α} {σ0 σ' : LS} {o0 : Obj} {newAcc : Sem Value} {tg : List Str} {fr : List (Str × Nat)} {cl : List (Str × Addr)} {RR : Value → Addr → Result → Shared → Prop} {E : Value → Shared → Prop}
   (X : CsOK scope sc vars tg fr) (I : ItS C tgt it ia J) (hg : GOK C false k (relS scope sc) (tg ++ fr.map (·.1)) tgt g) (ht : TsOK C k (relS scope sc) (tg ++ fr.map (·.1)) ifs ft) (hm : MOK C k (relS scope sc) (tg ++ fr.map (·.1)) AR body m)
   (hAR : ∀ {P P' : Mp} {a : α} {o : Obj}, P.Le P' → AR P a o → AR P' a o) (h0 : ∀ P, AR P a0 o0) (hfr : o0.isFreed = false)
   (hnew : ∀ (Q : Value → Shared → Prop) (s : Shared), Q (.ref s.heap.objs.size) { s with heap := s.heap.push o0 } → wpAny C.M A newAcc Q E s)
   (eT : TurnIs e 0 tgt iter ifs body) (hden : ∀ (Dc : Addr) (cenv : Env), C.M.den (.compLoop e 0 it (.ref Dc) cenv) = (compTurn e 0 it (.ref Dc) cenv).onRaise (fun x => do noteFrame x cenv; theTreesLotGoes x)) (hq : ∀ (Dc : Addr) (cenv : Env), (Code.compLoop e 0 it (.ref Dc) cenv).quiet = true)
   (hun : ∀ (Dc : Addr) (cenv : Env), A.under (.compLoop e 0 it (.ref Dc) cenv) = A)
   (hst : ∀ (it acc : Value) (cenv : Env) (R : Result → Shared → Prop) (s : Shared), codeAny C.M A (.compLoop e 0 it acc cenv) R s → wpAny C.M A (pyIter it) (fun it' s' => codeAny C.M A (.compLoop e 0 it' acc cenv) R s') (notedBy C.M A cenv fun x s' => R (.error x) s') s → codeAny C.M A (.compStart e 0 it acc cenv) R s)
   (hcl : cl = clOf env scope.names [])
   (G : EnvG sc env) (Rm : Room k A) (S : St C P W s) (R : RelEnv C vars env σ P W F vm own) (j : J ds P W) (hic : ∀ b, ia b → ∀ y c, env.cells.lookup y = some c → b ≠ c)
   (hf0 : fFree tg fr σ = some σ0) (hf : fLoop g ft m ds a0 σ0 = some (a', σ'))
   (hRR : ∀ Dc Cl P2 W2 s2 o2 mm, sysModules < Dc → P.Le P2 → St C P2 W2 s2 → (∀ b ob, ¬ ia b → W b = some ob → W2 b = some ob) → W Dc = none → W2 Dc = some o2 → AR P2 a' o2 → NsM W2 Cl mm → W Cl = none → Cl ≠ Dc → RR (.ref Dc) Cl (.ok .next) s2) :
   wpAny C.M A newAcc (fun acc s₃ => wpAny C.M A (newFunctionEnv scope env.globals cl [] env.qual none .none (some env)) (fun cenv s₄ =>
       codeAny C.M A (.compStart e 0 it acc { cenv with scope := relabel scope env }) (RR acc cenv.locals) s₄) E s₃) E s := by
 refine hnew _ s (wpAny_newFunctionEnv X.nocell (fun y hy => by cases hy) (fun h₁ hns₁ hsb₁ => ?_) X.kind)
 dsimp only at hns₁ hsb₁ ⊢
 have S2 := S.newW (tk := s.toks) hfr
 have nD : W s.heap.objs.size = none := S.freshW
 have loD : sysModules < s.heap.objs.size := S.big
 have S3 := S2.newW (tk := s.toks) (o := { cls := .type "dict", data := .dict #[] }) rfl
 have nC : (W.upd s.heap.objs.size o0) (s.heap.push o0).objs.size = none := S2.freshW
 refine Xeeeaaa hns₁ fun oL es ep l1 l2 l3 l4 => ?_
 haveI S4 := S3.setW (tk := s.toks) (Mp.upd_self ..) hsb₁ l1
 have neCD : (s.heap.push o0).objs.size ≠ s.heap.objs.size := by rw [Heap.size_push]; exact Nat.ne_of_gt (Nat.lt_succ_self _)
 generalize hCl : (s.heap.push o0).objs.size = Cl at *
 generalize hDc : s.heap.objs.size = Dc at *
 have nC' : W Cl = none := by rw [Mp.upd_ne _ _ neCD] at nC; exact nC
 generalize hW3 : (((W.upd Dc o0).upd Cl { cls := .type "dict", data := .dict #[] }).upd Cl oL) = W3 at *
 have keep : ∀ b ob, W b = some ob → W3 b = some ob := fun b ob eb => by
   have h1 : b ≠ Cl := by rintro rfl; rw [nC'] at eb; cases eb
   haveI h2 : b ≠ Dc := by rintro rfl; rw [nD] at eb; cases eb
   rw [← hW3, Mp.upd_ne _ _ h1, Mp.upd_ne _ _ h1, Mp.upd_ne _ _ h2]; exact eb
 haveI w3C : W3 Cl = some oL := by rw [← hW3]; exact Mp.upd_self ..
 have w3D : W3 Dc = some o0 := by rw [← hW3, Mp.upd_ne _ _ (Ne.symm neCD), Mp.upd_ne _ _ (Ne.symm neCD)]; exact Mp.upd_self ..
 refine Xa (comp_env (W' := W3) X G R hcl (fun x c o _ h => keep c o h) w3C l2 l3 (fun x => by rw [l4]; rfl) hf0) fun G2 R2 => ?_
 haveI hasI : ∀ b, ia b → W b ≠ none := fun b hb h => by refine Xe (I.has _ _ _ b j hb) fun ob q => ?_; rw [q] at h; cases h
 have cells2 : ∀ {y c}, (compEnvC scope cl Cl env).cells.lookup y = some c → env.cells.lookup y = some c := fun {y c} h => by
   subst hcl
   rcases clOf_mem _ _ (PySem.mem_of_lookup h) with h | h
   · cases h
   · exact h.2
 have j3 : J ds P W3 := I.keep _ _ _ _ _ j (.refl _) fun b ob _ eb => keep b ob eb
 haveI loop : codeAny C.M A (.compLoop e 0 it (.ref Dc) (compEnvC scope cl Cl env)) (RR (.ref Dc) Cl) { s with heap := h₁, toks := s.toks } := by
   refine loopM I hg ht hm hAR eT (fun _ => hden Dc _) (hq Dc _) (hun Dc _) G2 Rm S4 R2 w3D (h0 P) (fun h => neCD h.symm) (fun y c hc => ?_) j3 (fun b hb => ⟨fun h => hasI b hb (by rw [h]; exact nC'), fun h => hasI b hb (by rw [h]; exact nD)⟩) (fun b hb y c hc => hic b hb y c (cells2 hc)) hf fun P2 W2 F2 vm2 own2 s2 o2 S2' hP2 hW2 hF2 R2' hD2 ha2 => ?_
   · refine Xea (R.vs.cel y c (cells2 hc)) fun oc g1 _ => ?_
     rintro rfl; rw [nD] at g1; cases g1
   · refine Xe R2'.vs.nsM fun mm hmm => ?_
     exact hRR Dc Cl P2 W2 s2 o2 mm loD hP2 S2' (fun b ob hb eb => hW2 b ob (by rintro rfl; rw [nD] at eb; cases eb) (fun h => by rw [show b = Cl from h, nC'] at eb; cases eb) hb (keep b ob eb)) nD hD2 ha2 hmm nC' neCD
 exact hst it _ _ _ _ loop (I.self A P W3 _ ds _ _ j3 S4 loop)
end
section
variable {C : Cx} {vars : List Str} {env : Env} {sc : Scope} {σ : LS} {P P' W W' : Mp} {F : Addr → Prop} {vm : Str → Option Value} {own : Nat → Addr} {s : Shared} {A : Around} {k : Nat} {L : Addr} {α : Type}
theorem comp_back {P1 W1 P2 W2 : Mp} {F1 ia : Addr → Prop} {own1 : Nat → Addr} {σ1 : LS} {s2 : Shared} {h' : Heap} {Dc Cl : Addr} {o2 : Obj} {mm : Str → Option Value} (T1 : Step P W F P1 W1 F1) (R1 : RelEnv C vars env σ1 P1 W1 F1 vm own1)
   (hia : ∀ b, ia b → ¬ F1 b ∧ (¬ F b → W b = none)) (hic : ∀ b, ia b → ∀ y c, env.cells.lookup y = some c → b ≠ c) (hP : P1.Le P2) (S2 : St C P2 W2 s2) (hW : ∀ b ob, ¬ ia b → W1 b = some ob → W2 b = some ob) (nD : W1 Dc = none) (hD : W2 Dc = some o2)
   (hC : NsM W2 Cl mm) (nC : W1 Cl = none) (ne : Cl ≠ Dc) (hs : Heap.SameBut Cl s2.heap h') :
   ∃ W', St C (P2.upd Dc o2) W' { s2 with heap := h' } ∧ Step P W F (P2.upd Dc o2) W' F1 ∧ RelEnv C vars env σ1 (P2.upd Dc o2) W' F1 vm own1 ∧ (∀ b ob, W' b = some ob → b ≠ Cl) := by
 classical
 have hle : P2.Le (P2.upd Dc o2) := Mp.Le.upd (S2.w _ _ hD).2
 refine Xeeea hC fun oC _ _ hC1 _ => ?_
 have pC : P2 Cl = none := (S2.w _ _ hC1).2
 refine Ieaaa (fun b => if ia b then none else W1 b) ⟨S2.gens, S2.drawn, S2.os, fun b ob e => hle _ _ (S2.base b ob e), fun b ob e => ?_, fun b ob e => ?_⟩ ⟨T1.p.trans (hP.trans hle), fun b ob e n => ?_, T1.f⟩ (((R1.monoP hP).monoP hle).frameW (fun b ob hF e => ?_) (fun x c ob hc e => ?_) (fun _ h => h)) (fun b ob e => ?_)
 · have hb : b ≠ Cl := by
     rintro rfl
     rw [Mp.upd_ne _ _ ne, pC] at e; cases e
   rw [hs.2 b hb]
   by_cases hbD : b = Dc
   · subst hbD; rw [Mp.upd_self] at e; cases e; exact (S2.w _ _ hD).1
   · rw [Mp.upd_ne _ _ hbD] at e; exact S2.p _ _ e
 · split at e
   · cases e
   · rename_i hi
     have hb : b ≠ Cl := by rintro rfl; rw [nC] at e; cases e
     haveI hbD : b ≠ Dc := by rintro rfl; rw [nD] at e; cases e
     haveI := S2.w _ _ (hW b ob hi e)
     exact ⟨(hs.2 b hb).trans this.1, by rw [Mp.upd_ne _ _ hbD]; exact this.2⟩
 · rw [if_neg fun hi => by rw [(hia b hi).2 n] at e; cases e]
   exact T1.w b ob e n
 · rw [if_neg fun hi => (hia b hi).1 hF]; exact e
 · rw [if_neg fun hi => hic c hi x c hc rfl]; exact e
 · dsimp only at e
   split at e
   · cases e
   · rintro rfl; rw [nC] at e; cases e
noncomputable def fLC (fi : FnL) (tg : List Str) (fr : List (Str × Nat)) (g : D → LS → Option (LS)) (ft : FnB) (m : α → LS → Option (α × LS)) (a0 : α) (σ : LS) : Option (α × LS) :=
 (fi σ).bind fun p => (fFree tg fr p.2).bind fun σ0 => (fLoop g ft m p.1 a0 σ0).bind fun r => some (r.1, p.2)
noncomputable def fMk (mk : α → D) (f : LS → Option (α × LS)) (σ : LS) : Option (D × LS) := (f σ).map fun p => (mk p.1, p.2)
theorem newList_ok {E : Value → Shared → Prop} (Q : Value → Shared → Prop) (s : Shared) (h : Q (.ref s.heap.objs.size) { s with heap := s.heap.push { cls := .type "list", dict := none, data := .seq ([] : List Value).toArray } }) : wpAny C.M A (newList []) Q E s := wpAny_newObj_type h
theorem newDict_ok {E : Value → Shared → Prop} (Q : Value → Shared → Prop) (s : Shared) (h : Q (.ref s.heap.objs.size) { s with heap := s.heap.push { cls := .type "dict", data := .dict #[] } }) : wpAny C.M A newDict Q E s := by
 simp only [newDict, newObj]
 exact wpAny_bind (wpAny_alloc (wpAny_pure h))
theorem turn_list {elt tgt iter : Expr} {ifs : List Expr} {scope : Scope} {pos : Pos} : TurnIs (.ListComp elt [⟨tgt, iter, ifs, 0⟩] scope pos) 0 tgt iter ifs (fun env Dc => do let _ ← call (.builtin "list.append") [.ref Dc, ← eval elt env]) := fun _ _ _ => rfl
theorem turn_dict {kx vx tgt iter : Expr} {ifs : List Expr} {scope : Scope} {pos : Pos} : TurnIs (.DictComp kx vx [⟨tgt, iter, ifs, 0⟩] scope pos) 0 tgt iter ifs (fun env Dc => do
       let kv ← eval kx env
       let vv ← holding [kv] (eval vx env)
       standAt { kx.pos with endLine := vx.pos.endLine, endCol := vx.pos.endCol }
       holding [kv, vv] (dictSet Dc kv vv)) := fun _ _ _ => rfl
theorem clos_eq {scope : Scope} {tg : List Str} {fr : List (Str × Nat)} (X : CsOK scope sc vars tg fr) (G : EnvG sc env) (R : RelEnv C vars env σ P W F vm own) : closureFor scope env = pure (clOf env scope.names []) :=
 closureFor_eq fun x hx hk => R.vs.celE x.1 (.inl (by rw [G.kindOf]; exact (X.frees x hx hk).2))
theorem EOK_lcomp {elt tgt iter : Expr} {ifs : List Expr} {scope : Scope} {pos : Pos} {tg : List Str} {fr : List (Str × Nat)} {fi : FnL} {g : D → LS → Option (LS)} {ft : FnB} {fe : FnD}
   (X : CsOK scope sc vars tg fr) (hi : IOK C k sc vars tgt iter fi) (hg : GOK C false k (relS scope sc) (tg ++ fr.map (·.1)) tgt g) (ht : TsOK C k (relS scope sc) (tg ++ fr.map (·.1)) ifs ft) (he : EOK C k (relS scope sc) (tg ++ fr.map (·.1)) elt fe)
   (hs : ∀ env x, foldedSetIterable iter env x = pure x) : EOK C k sc vars (.ListComp elt [⟨tgt, iter, ifs, 0⟩] scope pos) (fMk .list (fLC fi tg fr g ft (fEmit fe) [])) := by
 constructor
 intro env A P W F vm own s σ σ' d Q G Rm S R hf hQ
 unfold fMk fLC at hf
 refine ms2 hf fun ys _ e0 hf => ?_
 nomatch hf, hQ
 refine bs2 e0 fun ds σ1 e1 e2 => ?_
 refine bs1 e2 fun σ0 e3 e4 => ?_
 refine bs2 e4 fun ys' σ9 e5 e6 => ?_
 cases e6
 rw [eval_ListComp]
 refine wpAny_comprehension_free (use := none) rfl (hs env) (clos_eq X G R) X.kind X.locals (hi.go env A P W F vm own s σ _ ds _ G Rm S R e1 fun it ia J P1 W1 F1 own1 s1 S1 T1 R1 I j1 hia hic => ?_)
 refine comp_run (AR := LR C) X I hg ht (MOK_list he) LR.mono (a0 := []) (fun P => ⟨[], ⟨0, rfl⟩, Reps.nil⟩) rfl (newList_ok) turn_list (fun _ _ => rfl) (fun _ _ => rfl) (fun _ _ => rfl) (fun _ _ _ _ _ h0 h => codeAny_compStart_list h0 h) rfl G Rm S1 R1 j1 hic e3 e5 fun Dc Cl P2 W2 s2 o2 mm loD hP S2 hW nD hD ha hC nC ne => ?_
 refine Iea mm ?_ (fun h' hsb => ?_)
 · refine Xeeeaaa hC fun o es ep h1 h2 h3 h4 => ?_
   exact Ieeeaaa o es ep ((S2.w _ _ h1).1) h2 h3 h4
 · refine Xeaaa (comp_back T1 R1 hia hic hP S2 hW nD hD hC nC ne hsb) fun W' S3 T3 R3 _ => ?_
   refine Xea ha fun us q1 q2 => ?_
   exact hQ _ _ W' F1 own1 _ S3 T3 R3 ⟨Dc, o2, us, rfl, Mp.upd_self .., q1, Reps.mono (Mp.Le.upd (S2.w _ _ hD).2) _ q2⟩
theorem EOK_dcomp {kx vx tgt iter : Expr} {ifs : List Expr} {scope : Scope} {pos : Pos} {tg : List Str} {fr : List (Str × Nat)} {fi : FnL} {g : D → LS → Option (LS)} {ft : FnB} {fk fe : FnD}
   (X : CsOK scope sc vars tg fr) (hi : IOK C k sc vars tgt iter fi) (hg : GOK C false k (relS scope sc) (tg ++ fr.map (·.1)) tgt g) (ht : TsOK C k (relS scope sc) (tg ++ fr.map (·.1)) ifs ft) (hk : EOK C k (relS scope sc) (tg ++ fr.map (·.1)) kx fk) (he : EOK C k (relS scope sc) (tg ++ fr.map (·.1)) vx fe)
   (hs : ∀ env x, foldedSetIterable iter env x = pure x) : EOK C k sc vars (.DictComp kx vx [⟨tgt, iter, ifs, 0⟩] scope pos) (fMk .dT (fLC fi tg fr g ft (fEmitD fk fe) [])) := by
 constructor
 intro env A P W F vm own s σ σ' d Q G Rm S R hf hQ
 unfold fMk fLC at hf
 refine ms2 hf fun ys _ e0 hf => ?_
 nomatch hf, hQ
 refine bs2 e0 fun ds σ1 e1 e2 => ?_
 refine bs1 e2 fun σ0 e3 e4 => ?_
 refine bs2 e4 fun ys' σ9 e5 e6 => ?_
 cases e6
 rw [arm_eval_DictComp]
 refine wpAny_comprehension_free (use := none) rfl (hs env) (clos_eq X G R) X.kind X.locals (hi.go env A P W F vm own s σ _ ds _ G Rm S R e1 fun it ia J P1 W1 F1 own1 s1 S1 T1 R1 I j1 hia hic => ?_)
 refine comp_run (AR := fun P es o => IsDctT C P o es) X I hg ht (MOK_dict hk he) (fun h x => x.mono h) (fun P => emptyT) rfl (newDict_ok) turn_dict (fun _ _ => rfl) (fun _ _ => rfl) (fun _ _ => rfl) (fun _ _ _ _ _ h0 h => codeAny_compStart_dict h0 h) rfl G Rm S1 R1 j1 hic e3 e5 fun Dc Cl P2 W2 s2 o2 mm loD hP S2 hW nD hD ha hC nC ne => ?_
 refine Iea mm ?_ (fun h' hsb => ?_)
 · refine Xeeeaaa hC fun o es ep h1 h2 h3 h4 => ?_
   exact Ieeeaaa o es ep ((S2.w _ _ h1).1) h2 h3 h4
 · refine Xeaaa (comp_back T1 R1 hia hic hP S2 hW nD hD hC nC ne hsb) fun W' S3 T3 R3 _ => ?_
   exact hQ _ _ W' F1 own1 _ S3 T3 R3 ⟨Dc, o2, rfl, Mp.upd_self .., ha.mono (Mp.Le.upd (S2.w _ _ hD).2), loD⟩
noncomputable def fAsgC (i : Nat) (f : FnL) (σ : LS) : Option (Fl × LS) := (f σ).map fun p => (.next, p.2.set i (.val (.list p.1)))
theorem SOK_lcomp {x : Str} {px : Pos} {i : Nat} {elt tgt iter : Expr} {ifs : List Expr} {scope : Scope} {pos spos : Pos} {tg : List Str} {fr : List (Str × Nat)} {fi : FnL} {g : D → LS → Option (LS)} {ft : FnB} {fe : FnD}
   (hi0 : vars[i]? = some x) (hx : Sto sc x) (hsw : ∀ env, EnvG sc env → swapsWith (.ListComp elt [⟨tgt, iter, ifs, 0⟩] scope pos) (some (.Name x px)) spos.line env = pure true)
   (X : CsOK scope sc vars tg fr) (hi : IOK C k sc vars tgt iter fi) (hg : GOK C false k (relS scope sc) (tg ++ fr.map (·.1)) tgt g) (ht : TsOK C k (relS scope sc) (tg ++ fr.map (·.1)) ifs ft) (he : EOK C k (relS scope sc) (tg ++ fr.map (·.1)) elt fe)
   (hs : ∀ env x, foldedSetIterable iter env x = pure x) : SOK C k sc vars (.Assign [.Name x px] (.ListComp elt [⟨tgt, iter, ifs, 0⟩] scope pos) spos) (fAsgC i (fLC fi tg fr g ft (fEmit fe) [])) := by
 constructor
 intro env A P W F vm own s σ σ' d Q G fu Rm S R hf hQ
 unfold fAsgC fLC at hf
 refine ms2 hf fun ys _ e0 hf => ?_
 nomatch hf, hQ
 refine bs2 e0 fun ds σ1 e1 e2 => ?_
 refine bs1 e2 fun σ0 e3 e4 => ?_
 refine bs2 e4 fun ys' σ9 e5 e6 => ?_
 cases e6
 rw [exec_Assign_Name_used _ _ _ _ (hsw env G)]
 refine wpAny_bind (wpAny_standAt (wpAny_bind ?_))
 show wpAny _ A (do let _ ← comprehension (.ListComp elt [⟨tgt, iter, ifs, 0⟩] scope pos) scope env _ (newList []) false (eval iter env) (some (assign (.Name x px) env))) _ _ s
 refine wpAny_bind (wpAny_mono (E := NoE) (wpAny_comprehension_free (use := some (assign (.Name x px) env)) (Q := fun _ s' => Q .next s') rfl (hs env) (clos_eq X G R) X.kind X.locals (hi.go env A P W F vm own s σ _ ds _ G Rm S R e1 fun it ia J P1 W1 F1 own1 s1 S1 T1 R1 I j1 hia hic => ?_)) (fun _ s' hq => wpAny_pure (wpAny_pure hq)) fun _ _ e => e)
 refine comp_run (AR := LR C) X I hg ht (MOK_list he) LR.mono (a0 := []) (fun P => ⟨[], ⟨0, rfl⟩, Reps.nil⟩) rfl (newList_ok) turn_list (fun _ _ => rfl) (fun _ _ => rfl) (fun _ _ => rfl) (fun _ _ _ _ _ h0 h => codeAny_compStart_list h0 h) rfl G Rm S1 R1 j1 hic e3 e5 fun Dc Cl P2 W2 s2 o2 mm loD hP S2 hW nD hD ha hC nC ne => ?_
 refine Xeaaa (comp_back T1 R1 hia hic hP S2 hW nD hD hC nC ne (Heap.SameBut.refl Cl s2.heap)) fun W' S3 T3 R3 hWC => ?_
 refine Xea ha fun us q1 q2 => ?_
 haveI hle : P2.Le (P2.upd Dc o2) := Mp.Le.upd (S2.w _ _ hD).2
 refine Xeeeaaa hC fun oC esC epC hC1 hC2 hC3 hC4 => ?_
 have nWC : W' Cl = none := by
   cases q : W' Cl with
   | none => rfl
   | some ob => exact absurd rfl (hWC _ _ q)
 have pC : (P2.upd Dc o2) Cl = none := by rw [Mp.upd_ne _ _ ne]; exact (S2.w _ _ hC1).2
 have S4 : St C (P2.upd Dc o2) (W'.upd Cl oC) s2 := ⟨S3.gens, S3.drawn, S3.os, S3.base, S3.p, fun b ob e => by
   by_cases hb : b = Cl
   · subst hb; rw [Mp.upd_self] at e; cases e; exact ⟨(S2.w _ _ hC1).1, pC⟩
   · rw [Mp.upd_ne _ _ hb] at e; exact S3.w b ob e⟩
 have keepC : ∀ b ob, W' b = some ob → (W'.upd Cl oC) b = some ob := fun b ob e => by rw [Mp.upd_ne _ _ (hWC b ob e)]; exact e
 have R4 : RelEnv C vars env σ1 (P2.upd Dc o2) (W'.upd Cl oC) (fun b => F1 b ∧ (W' b).isSome = true) vm own1 := R3.cut.frameW (fun b ob _ e => keepC b ob e) (fun x c ob _ e => keepC c ob e) fun _ h => h
 show wpAny C.M A (assign (.Name x px) env (.ref Dc)) _ NoE s2
 refine PySem.wpAny_assign_Name (set_val G S4 R4 hi0 (hx.at fu) (d := .list ys') ⟨Dc, o2, us, rfl, Mp.upd_self .., q1, Reps.mono hle _ q2⟩ fun W5 vm5 own5 s5 S5 T5 R5 => ?_)
 have w5C : W5 Cl = some oC := T5.w _ _ (Mp.upd_self ..) fun h => by rw [nWC] at h; cases h.2
 refine Iea mm ⟨oC, esC, epC, (S5.w _ _ w5C).1, hC2, hC3, hC4⟩ (fun h' hsb => ?_)
 have nF1C : ¬ (F1 Cl ∧ (W' Cl).isSome = true) := fun h => by rw [nWC] at h; cases h.2
 refine hQ .next _ (W5.del Cl) (fun b => F1 b ∧ (W' b).isSome = true) vm5 own5 _ ⟨S5.gens, S5.drawn, S5.os, S5.base, fun b ob e => (hsb.2 b (by rintro rfl; rw [pC] at e; cases e)).trans (S5.p b ob e), fun b ob e => ?_⟩ ⟨T3.p, fun b ob e n => ?_, fun b h => T3.f b h.1⟩ (R5.frameW (fun b ob hb e => ?_) (fun y c ob hc e => ?_) fun _ h => h) rfl
 · by_cases hb : b = Cl
   · subst hb; rw [Mp.del_self] at e; cases e
   · rw [Mp.del_ne _ hb] at e; exact ⟨(hsb.2 b hb).trans (S5.w b ob e).1, (S5.w b ob e).2⟩
 · haveI h3 := T3.w b ob e n
   rw [Mp.del_ne _ (hWC b ob h3)]
   exact T5.w b ob (keepC b ob h3) fun h => by
     rcases T3.f b h.1 with h | h
     · exact n h
     · rw [e] at h; cases h
 · rw [Mp.del_ne _ (by rintro rfl; exact nF1C hb)]; exact e
 · rw [Mp.del_ne _ ?_]; exact e
   rintro rfl
   refine Xea (R1.vs.cel y _ hc) fun oc g1 _ => ?_
   rw [nC] at g1; cases g1
end
noncomputable def RawAt (h : Heap) (d : Addr) (es : Array DictEntry) (ep : Nat) : Prop := ∃ o, h.get? d = some o ∧ o.ExactDict ∧ o.data = .dict es ep
section
variable {prog : Program} {w : World} {A : Around} {E : Value → Shared → Prop} {s : Shared} {d it v : Addr} {es : Array DictEntry} {ep i : Nat}
theorem RawAt.typ (h : RawAt s.heap d es ep) : s.TypeIs (.ref d) "dict" := let ⟨o, h1, h2, _⟩ := h; ⟨o, h1, h2.1⟩
noncomputable abbrev IsView (h : Heap) (v d : Addr) (T : String) : Prop := h.get? v = some { cls := .type T, data := .fields #[.ref d] }
noncomputable abbrev ValIt (h : Heap) (it d : Addr) (i n ep : Nat) : Prop := h.get? it = some { cls := .type "dict_valueiterator", dict := none, data := .fields #[.ref d, .int i 0, .int n 0, .int ep 0], slots := #[] }
theorem raw_values {Q : Value → Shared → Prop} (hm : RawAt s.heap d es ep) (hd : (d == sysModules) = false)
   (h : Q (.ref s.heap.objs.size) { s with heap := s.heap.push { cls := .type "dict_values", data := .fields #[.ref d] } }) : wpAny (model prog w) A (call (.builtin "dict.values") [.ref d]) Q E s := by
 refine wpAny_call_entry PySem.F.slot_dict_values hm.typ PySem.F.entry_dict_values ?_ (PySem.F.args_dict_values_1 _)
 refine wpAny_bind ?_
 unfold Builtin.Dict.noArgs
 refine wpAny_bind (wpAny_notOrdered_dict hm.typ ?_)
 refine wpAny_pure ?_
 show wpAny _ _ (Builtin.Dict.showsAll d >>= _) _ _ s
 unfold Builtin.Dict.showsAll
 rw [if_neg (by rw [hd]; exact Bool.false_ne_true)]
 exact wpAny_bind (wpAny_pure (wpAny_bind (wpAny_newObj_type (wpAny_pure ⟨_, rfl, h⟩))))
theorem raw_items {Q : Value → Shared → Prop} (hm : RawAt s.heap d es ep) (hd : (d == sysModules) = false)
   (h : Q (.ref s.heap.objs.size) { s with heap := s.heap.push { cls := .type "dict_items", data := .fields #[.ref d] } }) : wpAny (model prog w) A (call (.builtin "dict.items") [.ref d]) Q E s := by
 refine wpAny_call_entry PySem.F.slot_dict_items hm.typ PySem.F.entry_dict_items ?_ (PySem.F.args_dict_items_1 _)
 unfold Builtin.«dict.items»
 refine wpAny_bind ?_
 unfold Builtin.Dict.noArgs
 refine wpAny_bind (wpAny_notOrdered_dict hm.typ ?_)
 refine wpAny_pure ?_
 show wpAny _ _ (Builtin.Dict.showsAll d >>= _) _ _ s
 unfold Builtin.Dict.showsAll
 rw [if_neg (by rw [hd]; exact Bool.false_ne_true)]
 exact wpAny_bind (wpAny_pure (wpAny_bind (wpAny_newObj_type (wpAny_pure ⟨_, rfl, h⟩))))
theorem raw_iter_values {Q : Value → Shared → Prop} (hv : IsView s.heap v d "dict_values") (hm : RawAt s.heap d es ep)
   (hQ : Q (.ref s.heap.objs.size) { s with heap := s.heap.push { cls := .type "dict_valueiterator", data := .fields #[.ref d, .int 0 0, .int es.size 0, .int ep 0] } }) : wpAny (model prog w) A (pyIter (.ref v)) Q E s := by
 refine Xeaa (id hm) fun o ho hc hdat => ?_
 have hT : s.TypeIs (.ref v) "dict_values" := ⟨_, hv, rfl⟩
 refine wpAny_pyIter_slot hT PySem.F.slot_dict_values_iter (wpAny_call_entry PySem.F.slot_dict_values_iter hT PySem.F.entry_dict_values_iter ?_ (PySem.F.args_dict_values_iter_1 _))
 unfold Builtin.«dict_values.__iter__»
 refine wpAny_bind (wpAny_pure (wpAny_bind ?_))
 unfold Builtin.Dict_items.dictOf
 refine wpAny_bind (wpAny_field hv rfl (x := .ref d) rfl (wpAny_pure (wpAny_bind ?_)))
 unfold Builtin.Dict_items.newIterator
 refine wpAny_bind (wpAny_dictEntries ho hdat (wpAny_bind (wpAny_dictEpoch ho hdat ?_)))
 have hown : Builtin.Dict_items.ownsTuple "dict_valueiterator" = false := by decide
 simp only [hown, Bool.false_eq_true, if_false]
 exact wpAny_newObj_type (wpAny_pure ⟨_, rfl, "dict_valueiterator", _, ⟨_, Heap.get?_push_size _ rfl, rfl⟩, PySem.F.slot_dict_valueiterator_next.lookup, by simpa [rawInt] using hQ⟩)
theorem raw_iter_items {Q : Value → Shared → Prop} (hv : IsView s.heap v d "dict_items") (hm : RawAt s.heap d es ep)
   (hQ : Q (.ref s.heap.objs.size) { s with heap := s.heap.push { cls := .type "dict_itemiterator", data := .fields #[.none, .bool false, .ref d, .int 0 0, .int es.size 0, .int ep 0, .none, .none] } }) : wpAny (model prog w) A (pyIter (.ref v)) Q E s := by
 refine Xeaa (id hm) fun o ho hc hdat => ?_
 haveI hT : s.TypeIs (.ref v) "dict_items" := ⟨_, hv, rfl⟩
 refine wpAny_pyIter_slot hT PySem.F.slot_dict_items_iter (wpAny_call_entry PySem.F.slot_dict_items_iter hT PySem.F.entry_dict_items_iter ?_ (PySem.F.args_dict_items_iter_1 _))
 unfold Builtin.«dict_items.__iter__»
 refine wpAny_bind (wpAny_pure (wpAny_bind ?_))
 unfold Builtin.Dict_items.dictOf
 refine wpAny_bind (wpAny_field hv rfl (x := .ref d) rfl (wpAny_pure (wpAny_bind ?_)))
 unfold Builtin.Dict_items.newIterator
 refine wpAny_bind (wpAny_dictEntries ho hdat (wpAny_bind (wpAny_dictEpoch ho hdat ?_)))
 haveI hown : Builtin.Dict_items.ownsTuple "dict_itemiterator" = true := by decide
 simp only [hown, if_true]
 refine wpAny_newObj_type (wpAny_pure ⟨_, rfl, "dict_itemiterator", _, ⟨_, Heap.get?_push_size _ rfl, rfl⟩, PySem.F.slot_dict_itemiterator_next.lookup, ?_⟩)
   (by simp only [sizeOk, Builtin.Dict_items.ownedTupleFields, List.size_toArray, List.length_append, List.length_cons, List.length_nil, sizeLine_eq]; lia)
 simpa [rawInt, Builtin.Dict_items.ownedTupleFields] using hQ
theorem raw_next_values {Q : Option Value → Shared → Prop} {e : DictEntry} (hit : ValIt s.heap it d i es.size ep) (hm : RawAt s.heap d es ep) (hx : es[i]? = some e)
   (hQ : ∀ h', ValIt h' it d (i + 1) es.size ep → Heap.SameBut it s.heap h' → Q (some e.val) { s with heap := h' }) : wpAny (model prog w) A (pyNext (.ref it)) Q E s := by
 refine Xeaa (id hm) fun od hod hcd hdd => ?_
 have hT : s.TypeIs (.ref it) "dict_valueiterator" := ⟨_, hit, rfl⟩
 unfold pyNext
 refine wpAny_bind (wpAny_attempt (wpAny_callSpecial?_slot (name := Str.ofString "__next__") hT PySem.F.slot_dict_valueiterator_next
   (wpAny_call_entry PySem.F.slot_dict_valueiterator_next hT PySem.F.entry_dict_valueiterator_next ?_ (PySem.F.args_dict_valueiterator_next_1 _))))
 refine wpAny_bind (wpAny_pure (wpAny_bind (wpAny_bind ?_)))
 first | refine wpAny_bind (wpAny_typeNameOfWhole_valiter hT (wpAny_pure ?_)) | refine wpAny_bind (wpAny_typeNameOf_valiter hT (wpAny_pure ?_))
 refine wpAny_bind (wpAny_fieldsOf hit rfl ?_)
 have hown : Builtin.Dict_items.ownsTuple "dict_valueiterator" = false := by decide
 rw [hown, if_neg Bool.false_ne_true]
 show wpAny _ _ (if (Value.ref d == Value.none) = true then _ else _) _ _ s
 rw [if_neg (show ¬ ((Value.ref d == Value.none) = true) from Bool.false_ne_true)]
 refine wpAny_bind (wpAny_pure (wpAny_bind (wpAny_dictEntries hod hdd ?_)))
 rw [if_neg (by simp)]
 refine wpAny_bind (wpAny_pure (wpAny_bind (wpAny_dictEpoch hod hdd ?_)))
 rw [if_neg (by simp)]
 refine wpAny_pure ?_
 simp only [show ¬ ((i : Int) < 0) from c_neg, if_false, Int.toNat_natCast, hx]
 refine wpAny_bind ?_
 first | refine wpAny_bind (wpAny_typeNameOfWhole_valiter hT (wpAny_pure ?_)) | refine wpAny_bind (wpAny_typeNameOf_valiter hT (wpAny_pure ?_))
 refine wpAny_bind (wpAny_isOneOf_valiter hT ?_)
 show wpAny _ _ (setField (.ref it) 1 (rawInt ((i : Int) + 1)) >>= _) _ _ s
 refine wpAny_bind (wpAny_setField_rec hit (by simp) fun h₁ he₁ hs₁ => ?_)
 have he : ValIt h₁ it d (i + 1) es.size ep := by
   have e : ((i + 1 : Nat) : Int) = (i : Int) + 1 := rfl
   unfold ValIt; rw [e]; simpa [rawInt] using he₁
 have hT₁ : Shared.TypeIs { s with heap := h₁ } (.ref it) "dict_valueiterator" := ⟨_, he, rfl⟩
 refine wpAny_bind (wpAny_holding (wpAny_bind (wpAny_isOneOf_valiter hT₁ (wpAny_bind (wpAny_isOneOf_valiter hT₁ ?_)))))
 show wpAny _ _ (pure e.val) _ _ _
 exact wpAny_pure (wpAny_pure ⟨_, rfl, wpAny_pure (hQ _ he hs₁)⟩)
theorem raw_end_values {Q : Option Value → Shared → Prop} (hh : A.handled = none) (hit : ValIt s.heap it d i es.size ep) (hm : RawAt s.heap d es ep) (hx : es[i]? = none)
   (hQ : ∀ h', Heap.ExtBut it s.heap h' → Q none { s with heap := h' }) : wpAny (model prog w) A (pyNext (.ref it)) Q E s := by
 refine Xeaa (id hm) fun od hod hcd hdd => ?_
 have hT : s.TypeIs (.ref it) "dict_valueiterator" := ⟨_, hit, rfl⟩
 unfold pyNext
 refine wpAny_bind (wpAny_attempt (wpAny_callSpecial?_slot (name := Str.ofString "__next__") hT PySem.F.slot_dict_valueiterator_next
   (wpAny_call_entry PySem.F.slot_dict_valueiterator_next hT PySem.F.entry_dict_valueiterator_next ?_ (PySem.F.args_dict_valueiterator_next_1 _))))
 refine wpAny_bind (wpAny_pure (wpAny_bind (wpAny_bind ?_)))
 first | refine wpAny_bind (wpAny_typeNameOfWhole_valiter hT (wpAny_pure ?_)) | refine wpAny_bind (wpAny_typeNameOf_valiter hT (wpAny_pure ?_))
 refine wpAny_bind (wpAny_fieldsOf hit rfl ?_)
 have hown : Builtin.Dict_items.ownsTuple "dict_valueiterator" = false := by decide
 rw [hown, if_neg Bool.false_ne_true]
 show wpAny _ _ (if (Value.ref d == Value.none) = true then _ else _) _ _ s
 rw [if_neg (show ¬ ((Value.ref d == Value.none) = true) from Bool.false_ne_true)]
 refine wpAny_bind (wpAny_pure (wpAny_bind (wpAny_dictEntries hod hdd ?_)))
 rw [if_neg (by simp)]
 refine wpAny_bind (wpAny_pure (wpAny_bind (wpAny_dictEpoch hod hdd ?_)))
 rw [if_neg (by simp)]
 refine wpAny_pure ?_
 simp only [show ¬ ((i : Int) < 0) from c_neg, if_false, Int.toNat_natCast, hx]
 refine wpAny_bind ?_
 first | refine wpAny_bind (wpAny_typeNameOfWhole_valiter hT (wpAny_pure ?_)) | refine wpAny_bind (wpAny_typeNameOf_valiter hT (wpAny_pure ?_))
 show wpAny _ _ (setField (.ref it) 0 .none >>= _) _ _ s
 refine wpAny_bind (wpAny_setField_rec hit (by simp) fun h₁ he₁ hs₁ => ?_)
 show wpAny _ _ (newExc (.type "StopIteration") [] >>= _) _ _ _
 refine wpAny_bind ?_
 simp only [newExc, newTuple]
 refine wpAny_bind (wpAny_newObj_type ?_ (by size_fits))
 refine wpAny_bind (m := firstArgMember _ _) (wpAny_of_eq (a := Value.none) (by first | rfl | (simp only [firstArgMember]; rfl)) ?_)
 refine wpAny_newObj_type ?_ (by size_fits)
 simp only [raiseNew]
 refine wpAny_bind (wpAny_handled ?_)
 rw [show A.in1.handled = none from hh]
 refine wpAny_bind (wpAny_pure (wpAny_throw ?_))
 refine wpAny_bind (wpAny_isInstance (T := "StopIteration") (b := true) ⟨_, Heap.get?_push_size _ rfl, rfl⟩ isSubtype_stop ?_)
 exact wpAny_pure (hQ _ ((hs₁.extBut.push _).push _))
theorem raw_next_items {Q : Option Value → Shared → Prop} {e : DictEntry} {ok ov : Value} (hit : IsItemIter s.heap it d i es.size ep ok ov) (hm : RawAt s.heap d es ep) (hx : es[i]? = some e)
   (hQ : ∀ h', IsItemIterOut h' it d (i + 1) es.size ep e.key e.val s.heap.objs.size → h'.get? s.heap.objs.size = some { cls := .type "tuple", data := .seq #[e.key, e.val] } →
     (∀ b o, b ≠ it → s.heap.get? b = some o → h'.get? b = some o) → Q (some (.ref s.heap.objs.size)) { s with heap := h' }) : wpAny (model prog w) A (pyNext (.ref it)) Q E s := by
 obtain ⟨hp, g, dr, tk, os⟩ := s
 refine Xeaa (id hm) fun od hod hcd hdd => ?_
 haveI hT : Shared.TypeIs ⟨hp, g, dr, tk, os⟩ (.ref it) "dict_itemiterator" := ⟨_, hit, rfl⟩
 unfold pyNext
 refine wpAny_bind (wpAny_attempt (wpAny_callSpecial?_slot (name := Str.ofString "__next__") hT PySem.F.slot_dict_itemiterator_next
   (wpAny_call_entry PySem.F.slot_dict_itemiterator_next hT PySem.F.entry_dict_itemiterator_next ?_ (PySem.F.args_dict_itemiterator_next_1 _))))
 refine wpAny_bind (wpAny_pure (wpAny_bind (wpAny_bind ?_)))
 first | refine wpAny_bind (wpAny_typeNameOfWhole_itemiter hT (wpAny_pure ?_)) | refine wpAny_bind (wpAny_typeNameOf_itemiter hT (wpAny_pure ?_))
 refine wpAny_bind (wpAny_fieldsOf hit rfl ?_)
 haveI hown : Builtin.Dict_items.ownsTuple "dict_itemiterator" = true := by decide
 rw [hown, if_pos rfl]
 show wpAny _ _ (if (Value.ref d == Value.none) = true then _ else _) _ _ _
 rw [if_neg (show ¬ ((Value.ref d == Value.none) = true) from Bool.false_ne_true)]
 refine wpAny_bind (wpAny_pure (wpAny_bind (wpAny_dictEntries hod hdd ?_)))
 rw [if_neg (by simp)]
 refine wpAny_bind (wpAny_pure (wpAny_bind (wpAny_dictEpoch hod hdd ?_)))
 rw [if_neg (by simp)]
 refine wpAny_pure ?_
 simp only [show ¬ ((i : Int) < 0) from c_neg, if_false, Int.toNat_natCast, hx]
 refine wpAny_bind ?_
 first | refine wpAny_bind (wpAny_typeNameOfWhole_itemiter hT (wpAny_pure ?_)) | refine wpAny_bind (wpAny_typeNameOf_itemiter hT (wpAny_pure ?_))
 refine wpAny_bind (wpAny_isOneOf_itemiter hT ?_)
 show wpAny _ _ (setField (.ref it) 3 (rawInt ((i : Int) + 1)) >>= _) _ _ ⟨hp, g, dr, tk, os⟩
 refine wpAny_bind (wpAny_setField_rec hit (by simp) fun h₁ he₁ hs₁ => ?_)
 replace hs₁ : Heap.SameBut it hp h₁ := hs₁
 replace he₁ : IsItemIter h₁ it d (i + 1) es.size ep ok ov := by
   have e : ((i + 1 : Nat) : Int) = (i : Int) + 1 := rfl
   unfold IsItemIter; rw [e]; simpa [rawInt] using he₁
 haveI hT₁ : Shared.TypeIs ⟨h₁, g, dr, tk, os⟩ (.ref it) "dict_itemiterator" := ⟨_, he₁, rfl⟩
 refine wpAny_bind (wpAny_holding (wpAny_bind (wpAny_isOneOf_itemiter hT₁ (wpAny_bind (wpAny_isOneOf_itemiter hT₁ ?_)))))
 show wpAny _ _ (Builtin.Dict_items.pairFromOwner (.ref it) 6 e.key e.val) _ _ ⟨h₁, g, dr, tk, os⟩
 unfold Builtin.Dict_items.pairFromOwner
 refine wpAny_bind (wpAny_newTuple ?_)
 haveI he₂ : IsItemIter (h₁.push { cls := .type "tuple", data := .seq #[e.key, e.val] }) it d (i + 1) es.size ep ok ov := Heap.get?_push_of_some _ he₁
 generalize hh₂ : h₁.push { cls := .type "tuple", data := .seq #[e.key, e.val] } = h₂ at he₂
 haveI hz₁ : h₁.objs.size = hp.objs.size := hs₁.1
 haveI hil : it < hp.objs.size := Heap.lt_size hit
 haveI ht₂ : h₂.get? hp.objs.size = some { cls := .type "tuple", data := .seq #[e.key, e.val] } := by rw [← hh₂, ← hz₁]; exact Heap.get?_push_size _ rfl
 haveI hk₂ : ∀ b o, b ≠ it → hp.get? b = some o → h₂.get? b = some o := fun b o hb e => by rw [← hh₂]; exact Heap.get?_push_of_some _ (hs₁.extBut b o hb e)
 show wpAny _ _ (Builtin.Dict_items.ownedTupleIsFree (.ref it) >>= _) _ _ ⟨h₂, g, dr, tk, os⟩
 rw [hz₁]
 clear hh₂ he₁ hs₁ hT₁ hz₁ h₁
 refine wpAny_bind ?_
 unfold Builtin.Dict_items.ownedTupleIsFree
 refine wpAny_bind (wpAny_field he₂ rfl (x := .none) rfl (wpAny_pure ?_))
 simp only [if_true]
 refine wpAny_bind (wpAny_field he₂ rfl (x := ok) rfl (wpAny_bind (wpAny_field he₂ rfl (x := ov) rfl ?_)))
 refine wpAny_bind (wpAny_setField_rec he₂ (by simp) fun h₃ he₃ hs₃ => ?_)
 replace hs₃ : Heap.SameBut it h₂ h₃ := hs₃
 replace he₃ : IsItemIter h₃ it d (i + 1) es.size ep e.key ov := he₃
 refine wpAny_bind (wpAny_setField_rec he₃ (by simp) fun h₄ he₄ hs₄ => ?_)
 replace hs₄ : Heap.SameBut it h₃ h₄ := hs₄
 replace he₄ : IsItemIter h₄ it d (i + 1) es.size ep e.key e.val := he₄
 refine wpAny_bind (wpAny_setField_rec he₄ (by simp) fun h₅ he₅ hs₅ => ?_)
 replace hs₅ : Heap.SameBut it h₄ h₅ := hs₅
 replace he₅ : IsItemIterOut h₅ it d (i + 1) es.size ep e.key e.val hp.objs.size := he₅
 refine wpAny_bind (wpAny_setField_rec he₅ (by simp) fun h₆ he₆ hs₆ => ?_)
 replace hs₆ : Heap.SameBut it h₅ h₆ := hs₆
 replace he₆ : IsItemIterOut h₆ it d (i + 1) es.size ep e.key e.val hp.objs.size := he₆
 refine wpAny_bind (wpAny_letGo (wpAny_pure (wpAny_pure ⟨_, rfl, wpAny_pure (hQ h₆ he₆ ?_ ?_)⟩)))
 · exact hs₆.extBut _ _ (Nat.ne_of_gt hil) (hs₅.extBut _ _ (Nat.ne_of_gt hil) (hs₄.extBut _ _ (Nat.ne_of_gt hil) (hs₃.extBut _ _ (Nat.ne_of_gt hil) ht₂)))
 · exact fun b o hb e => hs₆.extBut b o hb (hs₅.extBut b o hb (hs₄.extBut b o hb (hs₃.extBut b o hb (hk₂ b o hb e))))
theorem raw_end_items {Q : Option Value → Shared → Prop} {ok ov : Value} (hh : A.handled = none) (hit : IsItemIter s.heap it d i es.size ep ok ov) (hm : RawAt s.heap d es ep) (hx : es[i]? = none)
   (hQ : ∀ h', Heap.ExtBut it s.heap h' → Q none { s with heap := h' }) : wpAny (model prog w) A (pyNext (.ref it)) Q E s := by
 refine Xeaa (id hm) fun od hod hcd hdd => ?_
 haveI hT : s.TypeIs (.ref it) "dict_itemiterator" := ⟨_, hit, rfl⟩
 unfold pyNext
 refine wpAny_bind (wpAny_attempt (wpAny_callSpecial?_slot (name := Str.ofString "__next__") hT PySem.F.slot_dict_itemiterator_next
   (wpAny_call_entry PySem.F.slot_dict_itemiterator_next hT PySem.F.entry_dict_itemiterator_next ?_ (PySem.F.args_dict_itemiterator_next_1 _))))
 refine wpAny_bind (wpAny_pure (wpAny_bind (wpAny_bind ?_)))
 first | refine wpAny_bind (wpAny_typeNameOfWhole_itemiter hT (wpAny_pure ?_)) | refine wpAny_bind (wpAny_typeNameOf_itemiter hT (wpAny_pure ?_))
 refine wpAny_bind (wpAny_fieldsOf hit rfl ?_)
 haveI hown : Builtin.Dict_items.ownsTuple "dict_itemiterator" = true := by decide
 rw [hown, if_pos rfl]
 show wpAny _ _ (if (Value.ref d == Value.none) = true then _ else _) _ _ s
 rw [if_neg (show ¬ ((Value.ref d == Value.none) = true) from Bool.false_ne_true)]
 refine wpAny_bind (wpAny_pure (wpAny_bind (wpAny_dictEntries hod hdd ?_)))
 rw [if_neg (by simp)]
 refine wpAny_bind (wpAny_pure (wpAny_bind (wpAny_dictEpoch hod hdd ?_)))
 rw [if_neg (by simp)]
 refine wpAny_pure ?_
 simp only [show ¬ ((i : Int) < 0) from c_neg, if_false, Int.toNat_natCast, hx]
 refine wpAny_bind ?_
 first | refine wpAny_bind (wpAny_typeNameOfWhole_itemiter hT (wpAny_pure ?_)) | refine wpAny_bind (wpAny_typeNameOf_itemiter hT (wpAny_pure ?_))
 show wpAny _ _ (setField (.ref it) 2 .none >>= _) _ _ s
 refine wpAny_bind (wpAny_setField_rec hit (by simp) fun h₁ he₁ hs₁ => ?_)
 show wpAny _ _ (newExc (.type "StopIteration") [] >>= _) _ _ _
 refine wpAny_bind ?_
 simp only [newExc, newTuple]
 refine wpAny_bind (wpAny_newObj_type ?_ (by size_fits))
 refine wpAny_bind (m := firstArgMember _ _) (wpAny_of_eq (a := Value.none) (by first | rfl | (simp only [firstArgMember]; rfl)) ?_)
 refine wpAny_newObj_type ?_ (by size_fits)
 simp only [raiseNew]
 refine wpAny_bind (wpAny_handled ?_)
 rw [show A.in1.handled = none from hh]
 refine wpAny_bind (wpAny_pure (wpAny_throw ?_))
 refine wpAny_bind (wpAny_isInstance (T := "StopIteration") (b := true) ⟨_, Heap.get?_push_size _ rfl, rfl⟩ isSubtype_stop ?_)
 exact wpAny_pure (hQ _ ((hs₁.extBut.push _).push _))
end
noncomputable def KS.toD : KS → D
 | .s x => .str x
 | .i n => .int n
noncomputable def pairD (p : List KS × Int) : D := .tup [.tup (p.1.map KS.toD), .int p.2]
section
theorem items_reps {ks : List KS} {vs : List Value} (H : ItemsAre (ksKind C.prog C.w) ks vs) : Reps C P (ks.map KS.toD) vs := by
 induction H with
 | nil => rfl
 | @cons k _ _ _ h r ih =>
   cases k with
   | s x => refine Xe (ksIs_s h) fun t q1 => ?_; subst q1; exact Ieeaa _ _ rfl ⟨t, rfl⟩ ih
   | i n => refine Xe (ksIs_i h) fun t q1 => ?_; subst q1; exact Ieeaa _ _ rfl ⟨t, rfl⟩ ih
theorem TR.length {es : LT} {xs : List (List KS × Addr × Value)} (H : TR C.prog C.w P es xs) : es.length = xs.length := by
 induction H with
 | nil => rfl
 | cons _ _ _ _ ih => exact congrArg (· + 1) ih
theorem TR.get {es : LT} {xs : List (List KS × Addr × Value)} (H : TR C.prog C.w P es xs) : ∀ {i : Nat} {ks : List KS} {n : Int}, es[i]? = some (ks, n) → ∃ a t ok vs, xs[i]? = some (ks, a, .int n t) ∧ P a = some ok ∧ IsTupO ok vs ∧ ItemsAre (ksKind C.prog C.w) ks vs := by
 induction H with
 | nil => intro i ks n e; exact nosome (List.getElem?_nil.symm.trans e)
 | @cons k0 n0 a t ok vs _ _ h1 h2 h3 _ ih =>
   intro i ks n e
   cases i with
   | zero => have e := sinj (show some (k0, n0) = some (ks, n) from e); obtain rfl := pj1 e; obtain rfl := pj2 e; exact Ieeeeaaa a t ok vs rfl h1 h2 h3
   | succ i => exact ih e
inductive XJ (C : Cx) (it : Addr) (ds : List D) (P W : Mp) : Prop
 | mk (i : Nat) (ok ov : Value) (d : Addr) (o : Obj) (es : LT) (xs : List (List KS × Addr × Value)) (dE : Array DictEntry) (ep : Nat) (h0 : W it = some { cls := .type "dict_itemiterator", dict := none, data := .fields #[.none, .bool false, .ref d, .int i 0, .int dE.size 0, .int ep 0, ok, ov], slots := #[] }) (h1 : P d = some o) (h2 : o.ExactDict) (h3 : o.data = .dict dE ep) (h4 : dE.toList = xs.map (entryOfKey C.kt)) (h5 : TR C.prog C.w P es xs) (h6 : ds = (es.drop i).map pairD) : XJ C it ds P W
theorem entry_of {es : LT} {xs : List (List KS × Addr × Value)} {dE : Array DictEntry} {i : Nat} {p : List KS × Int} {r : LT} (h1 : dE.toList = xs.map (entryOfKey C.kt)) (h2 : TR C.prog C.w P es xs) (h : es.drop i = p :: r) :
   ∃ a t ok vs, dE[i]? = some (entryOfKey C.kt (p.1, a, .int p.2 t)) ∧ P a = some ok ∧ IsTupO ok vs ∧ ItemsAre (ksKind C.prog C.w) p.1 vs ∧ es.drop (i + 1) = r := by
 haveI hi : es[i]? = some p := by rw [← List.head?_drop, h]; rfl
 refine Xeeeeaaa (h2.get (ks := p.1) (n := p.2) hi) fun a t ok vs g1 g2 g3 g4 => ?_
 refine Ieeeeaaaa a t ok vs ?_ g2 g3 g4 (by rw [← List.drop_drop, h]; rfl)
 rw [← Array.getElem?_toList, h1, List.getElem?_map, g1]; rfl
theorem entry_none {es : LT} {xs : List (List KS × Addr × Value)} {dE : Array DictEntry} {i : Nat} (h1 : dE.toList = xs.map (entryOfKey C.kt)) (h2 : TR C.prog C.w P es xs) (h : es.drop i = []) : dE[i]? = none := by
 rw [← Array.getElem?_toList, h1, List.getElem?_map, List.getElem?_eq_none]; rfl
 rw [← h2.length]; simpa using h
theorem itemIt {ts : List Expr} {kk : Nat} {pp : Pos} {it : Addr} : ItS C (.Tuple ts kk pp) (.ref it) (fun a => a = it) (XJ C it) where
 keep := fun ds P W P' W' ⟨i, ok, ov, d, o, es, xs, dE, ep, h1, h2, h3, h4, h5, h6, h7⟩ hP hW => ⟨i, ok, ov, d, o, es, xs, dE, ep, hW _ _ rfl h1, hP _ _ h2, h3, h4, h5, h6.mono hP, h7⟩
 has := fun ds P W a ⟨i, ok, ov, d, o, es, xs, dE, ep, h1, _, _, _, _, _, _⟩ h => ⟨_, (congrArg W h).trans h1⟩
 self := fun A P W s ds E Q ⟨i, ok, ov, d, o, es, xs, dE, ep, h1, _, _, _, _, _, _⟩ S h => kcp_self (S.w _ _ h1).1 h
 nil := fun A P W s Q hh ⟨i, ok, ov, d, o, es, xs, dE, ep, h1, h2, h3, h4, h5, h6, h7⟩ S hQ => by
   haveI e : es.drop i = [] := by simpa using h7.symm
   exact raw_end_items hh (S.w _ _ h1).1 ⟨o, S.p _ _ h2, h3, h4⟩ (entry_none h5 h6 e) fun h' hs => hQ _ _ (S.endIt (tk := s.toks) h1 hs) fun a ha => Mp.del_ne _ ha
 cons := fun A P W s dd ds Q hh ⟨i, ok, ov, d, o, es, xs, dE, ep, h1, h2, h3, h4, h5, h6, h7⟩ S hQ => by
   cases e : es.drop i with
   | nil => rw [e] at h7; cases h7
   | cons p r =>
     rw [e, List.map_cons] at h7
     injection h7 with h8 h9
     refine Xeeeeaaaa (entry_of h5 h6 e) fun a t oa vs g1 g2 g3 g4 g5 => ?_
     refine raw_next_items (S.w _ _ h1).1 ⟨o, S.p _ _ h2, h3, h4⟩ g1 fun h' hO hT hk => ⟨_, rfl, ?_⟩
     refine wpAny_letOwnedTupleGo_items hO fun h'' hE hs => ?_
     have ne : s.heap.objs.size ≠ it := fun q => by haveI := (S.w _ _ h1).1; rw [← q] at this; exact Nat.lt_irrefl _ (Heap.lt_size this)
     haveI hle : P.Le (P.upd s.heap.objs.size { cls := .type "tuple", data := .seq #[(entryOfKey C.kt (p.1, a, .int p.2 t)).key, (entryOfKey C.kt (p.1, a, .int p.2 t)).val] }) := Mp.Le.upd S.freshP
     have keepP : ∀ b ob, P b = some ob → h''.get? b = some ob := fun b ob q => by
       have hb : b ≠ it := by rintro rfl; rw [(S.w _ _ h1).2] at q; cases q
       exact hs.extBut b ob hb (hk b ob hb (S.p b ob q))
     refine hQ (.ref s.heap.objs.size) _ (W.upd it { cls := .type "dict_itemiterator", dict := none, data := .fields #[.none, .bool false, .ref d, .int ((i + 1 : Nat) : Int) 0, .int dE.size 0, .int ep 0, (entryOfKey C.kt (p.1, a, .int p.2 t)).key, (entryOfKey C.kt (p.1, a, .int p.2 t)).val], slots := #[] }) _ hle ⟨S.gens, S.drawn, S.os, fun b ob q => hle _ _ (S.base b ob q), fun b ob q => ?_, fun b ob q => ?_⟩ (fun b hb => Mp.upd_ne _ _ hb) ?_ ⟨i + 1, _, _, d, o, es, xs, dE, ep, Mp.upd_self .., hle _ _ h2, h3, h4, h5, h6.mono hle, by rw [h9, g5]⟩
     · by_cases hb : b = s.heap.objs.size
       · subst hb; rw [Mp.upd_self] at q; cases q; exact hs.extBut _ _ ne hT
       · rw [Mp.upd_ne _ _ hb] at q; exact keepP b ob q
     · by_cases hb : b = it
       · subst hb; rw [Mp.upd_self] at q; cases q
         exact ⟨hE, by rw [Mp.upd_ne _ _ (Ne.symm ne)]; exact (S.w _ _ h1).2⟩
       · rw [Mp.upd_ne _ _ hb] at q
         haveI := S.w b ob q
         have hn : b ≠ s.heap.objs.size := fun x => by rw [x] at this; exact Nat.lt_irrefl _ (Heap.lt_size this.1)
         exact ⟨hs.extBut b ob hb (hk b ob hb this.1), by rw [Mp.upd_ne _ _ hn]; exact this.2⟩
     · rw [h8]
       exact Ieeeaaaeeaaeeaa _ _ ([.ref a, .int p.2 t]) rfl (Mp.upd_self ..) ⟨0, rfl⟩ (.ref a) _ rfl ⟨a, oa, vs, rfl, hle _ _ g2, g3, items_reps g4⟩ (.int p.2 t) ([]) rfl ⟨t, rfl⟩ rfl
noncomputable def fItems (f : FnD) (σ : LS) : Option (List D × LS) := (f σ).bind fun p => match p.1 with
 | .dT es => some (es.map pairD, p.2)
 | _ => none
theorem IOK_items {ts : List Expr} {kk : Nat} {pp apos pos : Pos} {e : Expr} {f : FnD} (X : BMeth "dict" "items" "dict.items") (h : EOK C k sc vars e f)
   (hbase : ∀ env, attributeBase e "items" env (eval e env) = eval e env) (hline : (apos.endLine == pos.line) = true) : IOK C k sc vars (.Tuple ts kk pp) (.Call (.Attribute e "items" apos) [] [] pos) (fItems f) := by
 constructor
 intro env A P W F vm own s σ σ' ds Q G Rm S R hf hQ
 unfold fItems at hf
 refine bs2 hf fun a σ1 e1 hf => ?_
 cases a <;> first | exact ns hf | (cases hf; done) | skip
 rename_i es
 nomatch hf, hQ
 refine wpAny_Call_method (hbase env) rfl hline X.pa X.slot X.ty (h.go env A P W F vm own s σ _ _ _ G Rm S R e1 fun v P1 W1 F1 own1 s1 S1 T1 R1 r1 => ?_)
 refine Xa (typD_is (T := "dict") rfl S1 r1) fun t1 t2 => ?_
 refine Xeeaaa r1 fun d o q2 p1 w2 lo => ?_; subst q2; refine Xeeeaaaa w2 fun xs dE ep q1 q2 q3 q4 q5 => ?_
 refine ⟨t1, t2, callWith_method0 (raw_items ⟨o, S1.p _ _ p1, q1, q2⟩ (lo_ne lo) ?_)⟩
 haveI S2 := S1.newP (tk := s1.toks) (o := { cls := .type "dict_items", data := .fields #[.ref d] }) rfl
 haveI hle : P1.Le (P1.upd s1.heap.objs.size { cls := .type "dict_items", data := .fields #[.ref d] }) := Mp.Le.upd S1.freshP
 refine raw_iter_items (S2.p _ _ (Mp.upd_self ..)) ⟨o, S2.p _ _ (hle _ _ p1), q1, q2⟩ ?_
 haveI S3 := S2.newW (tk := s1.toks) (o := { cls := .type "dict_itemiterator", data := .fields #[.none, .bool false, .ref d, .int 0 0, .int dE.size 0, .int ep 0, .none, .none] }) rfl
 exact iter_new (T1.trans (.le hle)) (R1.monoP hle) S2.freshW (it := .ref (s1.heap.push { cls := .type "dict_items", data := .fields #[.ref d] }).objs.size) (J := XJ C (s1.heap.push { cls := .type "dict_items", data := .fields #[.ref d] }).objs.size) (fun hT hR h1 h2 => hQ _ _ _ _ _ _ own1 _ S3 hT hR itemIt ⟨0, _, _, d, o, es, xs, dE, ep, Mp.upd_self .., hle _ _ p1, q1, q2, q3, q5.mono hle, by simp⟩ h1 h2)
inductive VJ (C : Cx) (it : Addr) (ds : List D) (P W : Mp) : Prop
 | mk (i : Nat) (d : Addr) (o : Obj) (es : LT) (xs : List (List KS × Addr × Value)) (dE : Array DictEntry) (ep : Nat) (h0 : W it = some { cls := .type "dict_valueiterator", dict := none, data := .fields #[.ref d, .int i 0, .int dE.size 0, .int ep 0], slots := #[] }) (h1 : P d = some o) (h2 : o.ExactDict) (h3 : o.data = .dict dE ep) (h4 : dE.toList = xs.map (entryOfKey C.kt)) (h5 : TR C.prog C.w P es xs) (h6 : ds = (es.drop i).map fun p => .int p.2) : VJ C it ds P W
theorem valIt {x : Str} {px : Pos} {it : Addr} : ItS C (.Name x px) (.ref it) (fun a => a = it) (VJ C it) where
 keep := fun ds P W P' W' ⟨i, d, o, es, xs, dE, ep, h1, h2, h3, h4, h5, h6, h7⟩ hP hW => ⟨i, d, o, es, xs, dE, ep, hW _ _ rfl h1, hP _ _ h2, h3, h4, h5, h6.mono hP, h7⟩
 has := fun ds P W a ⟨i, d, o, es, xs, dE, ep, h1, _, _, _, _, _, _⟩ h => ⟨_, (congrArg W h).trans h1⟩
 self := fun A P W s ds E Q ⟨i, d, o, es, xs, dE, ep, h1, _, _, _, _, _, _⟩ S h => wpAny_pyIter_valiter ⟨_, (S.w _ _ h1).1, rfl, rfl⟩ h
 nil := fun A P W s Q hh ⟨i, d, o, es, xs, dE, ep, h1, h2, h3, h4, h5, h6, h7⟩ S hQ => by
   have e : es.drop i = [] := by simpa using h7.symm
   exact raw_end_values hh (S.w _ _ h1).1 ⟨o, S.p _ _ h2, h3, h4⟩ (entry_none h5 h6 e) fun h' hs => hQ _ _ (S.endIt (tk := s.toks) h1 hs) fun a ha => Mp.del_ne _ ha
 cons := fun A P W s dd ds Q hh ⟨i, d, o, es, xs, dE, ep, h1, h2, h3, h4, h5, h6, h7⟩ S hQ => by
   cases e : es.drop i with
   | nil => rw [e] at h7; cases h7
   | cons p r =>
     rw [e, List.map_cons] at h7
     injection h7 with h8 h9
     refine Xeeeeaaaa (entry_of h5 h6 e) fun a t oa vs g1 g2 g3 g4 g5 => ?_
     refine raw_next_values (S.w _ _ h1).1 ⟨o, S.p _ _ h2, h3, h4⟩ g1 fun h' hO hs => ⟨_, rfl, wpAny_pure ?_⟩
     exact hQ _ P _ _ (.refl _) (S.setW (tk := s.toks) h1 hs hO) (fun b hb => Mp.upd_ne _ _ hb) (by rw [h8]; exact ⟨t, rfl⟩) ⟨i + 1, d, o, es, xs, dE, ep, Mp.upd_self .., h2, h3, h4, h5, h6, by rw [h9, g5]⟩
noncomputable def fValues (f : FnD) (σ : LS) : Option (List D × LS) := (f σ).bind fun p => match p.1 with
 | .dT es => some (es.map fun p => .int p.2, p.2)
 | _ => none
theorem IOK_values {x : Str} {px apos pos : Pos} {e : Expr} {f : FnD} (X : BMeth "dict" "values" "dict.values") (h : EOK C k sc vars e f)
   (hbase : ∀ env, attributeBase e "values" env (eval e env) = eval e env) (hline : (apos.endLine == pos.line) = true) : IOK C k sc vars (.Name x px) (.Call (.Attribute e "values" apos) [] [] pos) (fValues f) := by
 constructor
 intro env A P W F vm own s σ σ' ds Q G Rm S R hf hQ
 unfold fValues at hf
 refine bs2 hf fun a σ1 e1 hf => ?_
 cases a <;> first | exact ns hf | (cases hf; done) | skip
 rename_i es
 nomatch hf, hQ
 refine wpAny_Call_method (hbase env) rfl hline X.pa X.slot X.ty (h.go env A P W F vm own s σ _ _ _ G Rm S R e1 fun v P1 W1 F1 own1 s1 S1 T1 R1 r1 => ?_)
 refine Xa (typD_is (T := "dict") rfl S1 r1) fun t1 t2 => ?_
 refine Xeeaaa r1 fun d o q2 p1 w4 lo => ?_; subst q2; refine Xeeeaaaa w4 fun xs dE ep q1 q2 q3 q4 q5 => ?_
 refine ⟨t1, t2, callWith_method0 (raw_values ⟨o, S1.p _ _ p1, q1, q2⟩ (lo_ne lo) ?_)⟩
 have S2 := S1.newP (tk := s1.toks) (o := { cls := .type "dict_values", data := .fields #[.ref d] }) rfl
 have hle : P1.Le (P1.upd s1.heap.objs.size { cls := .type "dict_values", data := .fields #[.ref d] }) := Mp.Le.upd S1.freshP
 refine raw_iter_values (S2.p _ _ (Mp.upd_self ..)) ⟨o, S2.p _ _ (hle _ _ p1), q1, q2⟩ ?_
 have S3 := S2.newW (tk := s1.toks) (o := { cls := .type "dict_valueiterator", data := .fields #[.ref d, .int 0 0, .int dE.size 0, .int ep 0] }) rfl
 exact iter_new (T1.trans (.le hle)) (R1.monoP hle) S2.freshW (it := .ref (s1.heap.push { cls := .type "dict_values", data := .fields #[.ref d] }).objs.size) (J := VJ C (s1.heap.push { cls := .type "dict_values", data := .fields #[.ref d] }).objs.size) (fun hT hR h1 h2 => hQ _ _ _ _ _ _ own1 _ S3 hT hR valIt ⟨0, d, o, es, xs, dE, ep, Mp.upd_self .., hle _ _ p1, q1, q2, q3, q5.mono hle, by simp⟩ h1 h2)
inductive KJ (C : Cx) (it : Addr) (ds : List D) (P W : Mp) : Prop
 | mk (i : Nat) (oi : Obj) (d : Addr) (o : Obj) (dE : Array DictEntry) (kvs : List (Int × Value)) (ep : Nat) (h0 : W it = some oi) (h1 : oi.cls = .type "dict_keyiterator") (h2 : oi.data = .fields #[.ref d, .int i 0, .int kvs.length 0, .int ep 0]) (h3 : P d = some o) (h4 : o.ExactDict) (h5 : o.data = .dict dE ep) (h6 : PySem.KeysOf C.ki dE) (h7 : Pairs C.ki dE.toList kvs) (h8 : (kvs.map (·.1)).Nodup) (h9 : ds = (kvs.drop i).map fun p => .int p.1) : KJ C it ds P W
theorem keyIt {x : Str} {px : Pos} {it : Addr} : ItS C (.Name x px) (.ref it) (fun a => a = it) (KJ C it) where
 keep := fun ds P W P' W' ⟨i, oi, d, o, dE, kvs, ep, h1, h2, h3, h4, h5, h6, h7, h8, h9, h10⟩ hP hW => ⟨i, oi, d, o, dE, kvs, ep, hW _ _ rfl h1, h2, h3, hP _ _ h4, h5, h6, h7, h8, h9, h10⟩
 has := fun ds P W a ⟨i, oi, d, o, dE, kvs, ep, h1, _, _, _, _, _, _, _, _, _⟩ h => ⟨_, (congrArg W h).trans h1⟩
 self := fun A P W s ds E Q ⟨i, oi, d, o, dE, kvs, ep, h1, h2, h3, _, _, _, _, _, _, _⟩ S h => wpAny_pyIter_keyiter (n := kvs.length) (ep := ep) ⟨oi, (S.w _ _ h1).1, h2, h3⟩ h
 nil := fun A P W s Q hh ⟨i, oi, d, o, dE, kvs, ep, h1, h2, h3, h4, h5, h6, h7, h8, h9, h10⟩ S hQ => by
   haveI e : kvs.drop i = [] := by simpa using h10.symm
   exact wpAny_pyNext_dict_end (knd := C.ki) hh ⟨oi, (S.w _ _ h1).1, h2, h3⟩ ⟨o, dE, S.p _ _ h4, h5, h6, h7, h8, h9⟩ (by rw [List.getElem?_eq_none]; simpa using e) fun h' hs => hQ _ _ (S.endIt (tk := s.toks) h1 hs) fun a ha => Mp.del_ne _ ha
 cons := fun A P W s dd ds Q hh ⟨i, oi, d, o, dE, kvs, ep, h1, h2, h3, h4, h5, h6, h7, h8, h9, h10⟩ S hQ => by
   cases e : kvs.drop i with
   | nil => rw [e] at h10; cases h10
   | cons p r =>
     rw [e, List.map_cons] at h10
     injection h10 with h11 h12
     haveI hi : kvs[i]? = some (p.1, p.2) := by rw [← List.head?_drop, e]; rfl
     refine wpAny_pyNext_dict_item (knd := C.ki) ⟨oi, (S.w _ _ h1).1, h2, h3⟩ ⟨o, dE, S.p _ _ h4, h5, h6, h7, h8, h9⟩ hi fun key h' hk hO hs => ⟨_, rfl, wpAny_pure ?_⟩
     refine Xeaa hO fun oi' g1 g2 g3 => ?_
     exact hQ _ P _ _ (.refl _) (S.setW (tk := s.toks) h1 hs g1) (fun b hb => Mp.upd_ne _ _ hb) (by rw [h11]; exact Value.isInt_shape hk) ⟨i + 1, oi', d, o, dE, kvs, ep, Mp.upd_self .., g2, g3, h4, h5, h6, h7, h8, h9, by rw [h12, ← List.drop_drop, e]; rfl⟩
noncomputable def fKeys (f : FnD) (σ : LS) : Option (List D × LS) := (f σ).bind fun p => match p.1 with
 | .dI es => some (es.map fun e => .int e.1, p.2)
 | _ => none
theorem RepI.keys : ∀ {es : List (Int × D)} {kvs : List (Int × Value)}, RepI C P es kvs → kvs.map (·.1) = es.map (·.1)
 | [], _, e => by rw [show _ = [] from e]; rfl
 | (k, x) :: es, _, ⟨v, r, e1, e2, e3⟩ => by subst e1; rw [List.map_cons, List.map_cons, e3.keys]
theorem IOK_keys {x : Str} {px : Pos} {e : Expr} {f : FnD} (h : EOK C k sc vars e f) : IOK C k sc vars (.Name x px) e (fKeys f) := by
 constructor
 intro env A P W F vm own s σ σ' ds Q G Rm S R hf hQ
 unfold fKeys at hf
 refine bs2 hf fun a σ1 e1 hf => ?_
 cases a <;> first | exact ns hf | (cases hf; done) | skip
 rename_i es
 nomatch hf, hQ
 refine h.go env A P W F vm own s σ _ _ _ G Rm S R e1 fun v P1 W1 F1 own1 s1 S1 T1 R1 r1 => ?_
 refine Xeeeaaaa r1 fun d o kvs q3 p1 w6 q6 lo => ?_; subst q3; refine Xeeaaaa w6 fun dE ep q1 q2 q3 q4 q5 => ?_
 refine wpAny_pyIter_dict (knd := C.ki) (lo_ne lo) ⟨o, dE, S1.p _ _ p1, q1, q2, q3, q4, q5⟩ ?_
 haveI S2 := S1.newW (tk := s1.toks) (o := { cls := .type "dict_keyiterator", data := .fields #[.ref d, .int 0 0, .int kvs.length 0, .int ep 0] }) rfl
 haveI hk : (es.map fun e => D.int e.1) = (kvs.drop 0).map fun p => .int p.1 := by
   haveI := congrArg (List.map D.int) q6.keys
   simpa [Function.comp_def] using this.symm
 exact iter_new T1 R1 S1.freshW (it := .ref s1.heap.objs.size) (J := KJ C s1.heap.objs.size) (fun hT hR h1 h2 => hQ _ _ _ _ _ _ own1 _ S2 hT hR keyIt ⟨0, _, d, o, dE, kvs, ep, Mp.upd_self .., rfl, rfl, p1, q1, q2, q3, q4, q5, hk⟩ h1 h2)
end
section
variable {C : Cx} {vars : List Str} {env : Env} {sc : Scope} {σ : LS} {P P' W W' : Mp} {F : Addr → Prop} {vm : Str → Option Value} {own : Nat → Addr} {s : Shared} {A : Around} {k : Nat} {L : Addr} {α : Type}
theorem start2 {elt t1 i1 t2 i2 : Expr} {ifs1 ifs2 : List Expr} {scope : Scope} {pos : Pos} {it acc : Value} {R : Result → Shared → Prop}
   (h0 : codeAny C.M A (.compLoop (.ListComp elt [⟨t1, i1, ifs1, 0⟩, ⟨t2, i2, ifs2, 0⟩] scope pos) 1 it acc env) R s)
   (h : wpAny C.M A (pyIter it) (fun it' s' => codeAny C.M A (.compLoop (.ListComp elt [⟨t1, i1, ifs1, 0⟩, ⟨t2, i2, ifs2, 0⟩] scope pos) 1 it' acc env) R s') (notedBy C.M A env fun x s' => R (.error x) s') s) :
   codeAny C.M A (.compStart (.ListComp elt [⟨t1, i1, ifs1, 0⟩, ⟨t2, i2, ifs2, 0⟩] scope pos) 1 it acc env) R s := by
 refine codeAny_of_tree ?_
 show wpAny _ _ ((compStart (.ListComp elt [⟨t1, i1, ifs1, 0⟩, ⟨t2, i2, ifs2, 0⟩] scope pos) 1 it acc env).onRaise (fun x => do noteFrame x env; standAt theWindowsPlace)) _ _ s
 refine wpAny_notedAt ?_
 unfold compStart
 show wpAny _ _ (ask >>= _) _ _ s
 refine wpAny_bind (wpAny_askSetting (wpAny_ite ?_))
 split
 · first
     | exact wpAny_bind (wpAny_pure (wpAny_pure (And.intro rfl h0)))
     | exact wpAny_pure (And.intro rfl h0)
 · first
     | exact wpAny_bind (wpAny_rule (wpAny_bind (wpAny_standAt (wpAny_bind (wpAny_mono h (fun it' s' h' => wpAny_pure (And.intro rfl h')) fun _ _ x => x)))))
     | (refine wpAny_bind (wpAny_rule ?_); show wpAny _ _ (standAt i2.pos >>= _) _ _ s; exact wpAny_bind (wpAny_standAt (wpAny_bind (wpAny_mono h (fun it' s' h' => wpAny_pure (And.intro rfl h')) fun _ _ x => x))))
noncomputable def body2 (elt : Expr) (t1 i1 t2 i2 : Expr) (ifs1 ifs2 : List Expr) (scope : Scope) (pos : Pos) (env : Env) (Dc : Addr) : Sem Unit := do
 let x ← eval i2 env
 standAt i2.pos
 let x ← foldedSetIterable i2 env x
 let _ ← runOwn (.compStart (.ListComp elt [⟨t1, i1, ifs1, 0⟩, ⟨t2, i2, ifs2, 0⟩] scope pos) 1 (← holding [x] (pyIter x)) (.ref Dc) env) env
theorem turn2a {elt t1 i1 t2 i2 : Expr} {ifs1 ifs2 : List Expr} {scope : Scope} {pos : Pos} : TurnIs (.ListComp elt [⟨t1, i1, ifs1, 0⟩, ⟨t2, i2, ifs2, 0⟩] scope pos) 0 t1 i1 ifs1 (body2 elt t1 i1 t2 i2 ifs1 ifs2 scope pos) := fun it Dc env => by
 unfold body2
 simp only [bind_assoc, pure_bind]
 rfl
theorem turn2b {elt t1 i1 t2 i2 : Expr} {ifs1 ifs2 : List Expr} {scope : Scope} {pos : Pos} : TurnIs (.ListComp elt [⟨t1, i1, ifs1, 0⟩, ⟨t2, i2, ifs2, 0⟩] scope pos) 1 t2 i2 ifs2 (fun env Dc => do let _ ← call (.builtin "list.append") [.ref Dc, ← eval elt env]) := fun _ _ _ => rfl
noncomputable def fInner (fi : FnL) (g : D → LS → Option (LS)) (ft : FnB) (m : α → LS → Option (α × LS)) (a : α) (σ : LS) : Option (α × LS) := (fi σ).bind fun p => fLoop g ft m p.1 a p.2
theorem MOK_inner {elt t1 i1 t2 i2 : Expr} {ifs1 ifs2 : List Expr} {scope : Scope} {pos : Pos} {fi : FnL} {g : D → LS → Option (LS)} {ft : FnB} {m : List D → FnL}
   (hi : IOK C k sc vars t2 i2 fi) (hg : GOK C false k sc vars t2 g) (ht : TsOK C k sc vars ifs2 ft) (hm : MOK C k sc vars (LR C) (fun env Dc => do let _ ← call (.builtin "list.append") [.ref Dc, ← eval elt env]) m)
   (hs : ∀ env x, foldedSetIterable i2 env x = pure x) : MOK C k sc vars (LR C) (body2 elt t1 i1 t2 i2 ifs1 ifs2 scope pos) (fInner fi g ft m) := by
 constructor
 intro env A P W F vm own s σ σ' Dc o a a' Q G Rm S R hD ha hDF hDc hf hQ
 unfold fInner at hf
 refine bs2 hf fun ds σ1 e1 hf => ?_
 unfold body2
 refine wpAny_bind (wpAny_mono (E := NoE) (hi.go env A P W F vm own s σ _ ds (fun it s1 => wpAny C.M A (runOwn (.compStart (.ListComp elt [⟨t1, i1, ifs1, 0⟩, ⟨t2, i2, ifs2, 0⟩] scope pos) 1 it (.ref Dc) env) env) (fun _ => Q ()) NoE s1) G Rm S R e1 fun it ia J P1 W1 F1 own1 s1 S1 T1 R1 I j1 hia hic => ?_) (fun x s1 h => ?_) fun _ _ h => h)
 · have nia : ¬ ia Dc := fun h => by have := (hia Dc h).2 hDF; rw [hD] at this; cases this
   have w1 : W1 Dc = some o := T1.w _ _ hD hDF
   have nF1 : ¬ F1 Dc := fun h => (T1.f _ h).elim hDF fun q => by rw [hD] at q; cases q
   refine wpAny_runOwn (codeAny_mono (R := fun r s' => match r with | .ok _ => Q () s' | .error _ => False) ?_ fun r s' h => by
     cases r with
     | ok f => exact h
     | error e => exact h.elim)
   have loop : codeAny C.M A (.compLoop (.ListComp elt [⟨t1, i1, ifs1, 0⟩, ⟨t2, i2, ifs2, 0⟩] scope pos) 1 it (.ref Dc) env) (fun r s' => match r with | .ok _ => Q () s' | .error _ => False) s1 := by
     refine loopM I hg ht hm LR.mono turn2b (fun _ => rfl) rfl rfl G Rm S1 R1 w1 (ha.mono T1.p) nF1 hDc j1 (fun b hb => ⟨(hia b hb).1, fun e => nia (e ▸ hb)⟩) hic hf fun P2 W2 F2 vm2 own2 s2 o2 S2 hP2 hW2 hF2 R2 hD2 ha2 => ?_
     classical
     refine hQ P2 (fun b => if ia b then none else W2 b) F2 vm2 own2 s2 o2 (S2.less fun b ob e => ?_) (T1.p.trans hP2) (fun b ob h1 h2 h3 => ?_) (fun b hb => ⟨(hF2 b hb).1, ?_⟩) (R2.frameW (fun b ob hb e => ?_) (fun x c ob hc e => ?_) fun _ h => h) ?_ ha2
     · split at e
       · cases e
       · exact e
     · have hi' : ¬ ia b := fun h => by rw [(hia b h).2 h2] at h3; cases h3
       rw [if_neg hi']
       exact hW2 b ob h1 (fun h => (T1.f b h).elim h2 fun q => by rw [h3] at q; cases q) hi' (T1.w b ob h3 h2)
     · rcases (hF2 b hb).2.2 with h | h
       · exact T1.f b h
       · by_cases hFb : F b
         · exact .inl hFb
         · right
           cases q : W b with
           | none => rfl
           | some ob => have := T1.w b ob q hFb; rw [h] at this; cases this
     · rw [if_neg (hF2 b hb).2.1]; exact e
     · rw [if_neg fun h => hic c h x c hc rfl]; exact e
     · rw [if_neg nia]; exact hD2
   exact start2 loop (I.self A P1 W1 s1 ds _ _ j1 S1 loop)
 · refine wpAny_bind (wpAny_standAt (wpAny_bind (wpAny_of_eq (hs env x) (wpAny_bind (wpAny_holding (wpAny_mono h (fun it s2 h2 => ?_) fun _ _ h => h))))))
   exact wpAny_bind (wpAny_mono h2 (fun _ _ h => wpAny_pure h) fun _ _ h => h)
theorem EOK_lcomp2 {elt t1 i1 t2 i2 : Expr} {ifs1 ifs2 : List Expr} {scope : Scope} {pos : Pos} {tg : List Str} {fr : List (Str × Nat)} {fi fi2 : FnL} {g g2 : D → LS → Option (LS)} {ft ft2 : FnB} {fe : FnD}
   (X : CsOK scope sc vars tg fr) (hi : IOK C k sc vars t1 i1 fi) (hg : GOK C false k (relS scope sc) (tg ++ fr.map (·.1)) t1 g) (ht : TsOK C k (relS scope sc) (tg ++ fr.map (·.1)) ifs1 ft)
   (hi2 : IOK C k (relS scope sc) (tg ++ fr.map (·.1)) t2 i2 fi2) (hg2 : GOK C false k (relS scope sc) (tg ++ fr.map (·.1)) t2 g2) (ht2 : TsOK C k (relS scope sc) (tg ++ fr.map (·.1)) ifs2 ft2) (he : EOK C k (relS scope sc) (tg ++ fr.map (·.1)) elt fe)
   (hs : ∀ env x, foldedSetIterable i1 env x = pure x) (hs2 : ∀ env x, foldedSetIterable i2 env x = pure x) :
   EOK C k sc vars (.ListComp elt [⟨t1, i1, ifs1, 0⟩, ⟨t2, i2, ifs2, 0⟩] scope pos) (fMk .list (fLC fi tg fr g ft (fInner fi2 g2 ft2 (fEmit fe)) [])) := by
 constructor
 intro env A P W F vm own s σ σ' d Q G Rm S R hf hQ
 unfold fMk fLC at hf
 refine ms2 hf fun ys _ e0 hf => ?_
 nomatch hf, hQ
 refine bs2 e0 fun ds σ1 e1 e2 => ?_
 refine bs1 e2 fun σ0 e3 e4 => ?_
 refine bs2 e4 fun ys' σ9 e5 e6 => ?_
 cases e6
 rw [eval_ListComp]
 refine wpAny_comprehension_free (use := none) rfl (hs env) (clos_eq X G R) X.kind X.locals (hi.go env A P W F vm own s σ _ ds _ G Rm S R e1 fun it ia J P1 W1 F1 own1 s1 S1 T1 R1 I j1 hia hic => ?_)
 refine comp_run (AR := LR C) X I hg ht (MOK_inner hi2 hg2 ht2 (MOK_list he) hs2) LR.mono (a0 := []) (fun P => ⟨[], ⟨0, rfl⟩, Reps.nil⟩) rfl (newList_ok) turn2a (fun _ _ => rfl) (fun _ _ => rfl) (fun _ _ => rfl) (fun _ _ _ _ _ h0 h => codeAny_compStart_list h0 h) rfl G Rm S1 R1 j1 hic e3 e5 fun Dc Cl P2 W2 s2 o2 mm loD hP S2 hW nD hD ha hC nC ne => ?_
 refine Iea mm ?_ (fun h' hsb => ?_)
 · refine Xeeeaaa hC fun o es ep h1 h2 h3 h4 => ?_
   exact Ieeeaaa o es ep ((S2.w _ _ h1).1) h2 h3 h4
 · refine Xeaaa (comp_back T1 R1 hia hic hP S2 hW nD hD hC nC ne hsb) fun W' S3 T3 R3 _ => ?_
   refine Xea ha fun us q1 q2 => ?_
   exact hQ _ _ W' F1 own1 _ S3 T3 R3 ⟨Dc, o2, us, rfl, Mp.upd_self .., q1, Reps.mono (Mp.Le.upd (S2.w _ _ hD).2) _ q2⟩
end
section
open PySem.AutoSeq1 (wpAny_loadPart')
open PySem.MeetsSeq PySem.MeetsSeq2 PySem.MeetsSeq3 PySem.SeqRoads2
section
variable {C : Cx} {A : Around} {s : Shared}
noncomputable def EqM (C : Cx) (A : Around) (s : Shared) (y x : Value) (b : Bool) : Prop := ∀ (E : Value → Shared → Prop) (Q : Bool → Shared → Prop), Q b s → wpAny C.M A (eqBool y x) Q E s
noncomputable def RcM (C : Cx) (op : CmpOp) (A : Around) (s : Shared) (y x : Value) (b : Bool) : Prop := ∀ (E : Value → Shared → Prop) (Q : Value → Shared → Prop), Q (.bool b) s → wpAny C.M A (richCompare op y x) Q E s
theorem tup_eqM (l b : Addr) (items items2 : Array Value) (n n2 : Nat) (dd dd2 : Option Addr) (sl sl2 : Array (Option Value)) (e : Nat → Bool) (hsz : items.size = items2.size) :
   MeetsIn C.prog C.w (Builtin.«tuple.__eq__» ⟨[.ref l, .ref b], []⟩)
     (fun A R s => s.heap.get? l = some { cls := .type "tuple", dict := dd, data := .seq items n, slots := sl } ∧ s.heap.get? b = some { cls := .type "tuple", dict := dd2, data := .seq items2 n2, slots := sl2 } ∧
       (∀ j (h1 : j < items.size) (h2 : j < items2.size), EqM C A.in1 s items[j] items2[j] (e j)) ∧
       R (.ok (.ret (.bool ((List.range items.size).all e)))) s) :=
 .of_wp fun A R s h => by
   obtain ⟨hp, g, d, tk, os⟩ := s; refine Xaaa h fun hl hb he h => ?_
   have f2 := AutoSeq1.sub_tuple_tuple
   have hZ : (items.toList.zip items2.toList).length = items.size := by simp [hsz]
   wp_walk using wpAny_loadPart' hl, wpAny_loadPart' hb, wpAny_forIn_list _ (fun rest b s' => b.1 = none ∧ s' = ⟨hp, g, d, tk, os⟩ ∧ ∃ i, rest = (items.toList.zip items2.toList).drop i ∧
     R (.ok (.ret (.bool (((List.range items.size).drop i).all e)))) ⟨hp, g, d, tk, os⟩) _
   case turn =>
     rintro ⟨y, x⟩ rest b s' ⟨hb', rfl, i, hz, hR⟩
     have h1 : i < items.size := by
       rcases Nat.lt_or_ge i (items.toList.zip items2.toList).length with h' | h'
       · exact hZ ▸ h'
       · rw [List.drop_of_length_le h'] at hz; cases hz
     have h2 : i < items2.size := hsz ▸ h1
     rw [List.drop_eq_getElem_cons (hZ.symm ▸ h1)] at hz
     injection hz with hyx hrest
     have hy : y = items[i] := by have := congrArg Prod.fst hyx; simpa using this
     have hx : x = items2[i] := by have := congrArg Prod.snd hyx; simpa using this
     subst hy hx
     have hd : (List.range items.size).drop i = i :: (List.range items.size).drop (i + 1) := by simp [List.drop_eq_getElem_cons, h1]
     rw [hd, List.all_cons] at hR
     refine wpAny_bind (he i h1 h2 _ _ ?_)
     cases hy : e i with
     | true => rw [hy] at hR; wp_walk; exact Iaaea rfl rfl (i + 1) hrest (by simpa using hR)
     | false => rw [hy] at hR; wp_walk; exact Iea _ rfl (by simpa using hR)
   case fin =>
     rintro ⟨b1, b2⟩ s' ⟨hb', rfl, i, hz, hR⟩
     simp only at hb'
     subst hb'
     have hge : items.size ≤ i := by
       rcases Nat.lt_or_ge i (items.toList.zip items2.toList).length with h' | h'
       · rw [List.drop_eq_getElem_cons h'] at hz; cases hz
       · exact hZ ▸ h'
     rw [List.drop_of_length_le (by simpa using hge)] at hR
     wp_walk
     exact Iea _ rfl (by simpa [Builtin.Tuple.tupleCompareSizes, hsz] using hR)
   case h => exact Iaaea rfl rfl 0 rfl (by simpa using h)
theorem tup_neM (l b : Addr) (items items2 : Array Value) (n n2 : Nat) (dd dd2 : Option Addr) (sl sl2 : Array (Option Value)) (e : Nat → Bool) (hsz : items.size = items2.size) :
   MeetsIn C.prog C.w (Builtin.«tuple.__ne__» ⟨[.ref l, .ref b], []⟩)
     (fun A R s => s.heap.get? l = some { cls := .type "tuple", dict := dd, data := .seq items n, slots := sl } ∧ s.heap.get? b = some { cls := .type "tuple", dict := dd2, data := .seq items2 n2, slots := sl2 } ∧
       (∀ j (h1 : j < items.size) (h2 : j < items2.size), EqM C A.in1 s items[j] items2[j] (e j)) ∧
       R (.ok (.ret (.bool (!(List.range items.size).all e)))) s) :=
 .of_wp fun A R s h => by
   obtain ⟨hp, g, d, tk, os⟩ := s; refine Xaaa h fun hl hb he h => ?_
   have f2 := AutoSeq1.sub_tuple_tuple
   have hZ : (items.toList.zip items2.toList).length = items.size := by simp [hsz]
   wp_walk using wpAny_loadPart' hl, wpAny_loadPart' hb, wpAny_forIn_list _ (fun rest b s' => b.1 = none ∧ s' = ⟨hp, g, d, tk, os⟩ ∧ ∃ i, rest = (items.toList.zip items2.toList).drop i ∧
     R (.ok (.ret (.bool (!((List.range items.size).drop i).all e)))) ⟨hp, g, d, tk, os⟩) _
   case turn =>
     rintro ⟨y, x⟩ rest b s' ⟨hb', rfl, i, hz, hR⟩
     have h1 : i < items.size := by
       rcases Nat.lt_or_ge i (items.toList.zip items2.toList).length with h' | h'
       · exact hZ ▸ h'
       · rw [List.drop_of_length_le h'] at hz; cases hz
     have h2 : i < items2.size := hsz ▸ h1
     rw [List.drop_eq_getElem_cons (hZ.symm ▸ h1)] at hz
     injection hz with hyx hrest
     have hy : y = items[i] := by have := congrArg Prod.fst hyx; simpa using this
     have hx : x = items2[i] := by have := congrArg Prod.snd hyx; simpa using this
     subst hy hx
     have hd : (List.range items.size).drop i = i :: (List.range items.size).drop (i + 1) := by simp [List.drop_eq_getElem_cons, h1]
     rw [hd, List.all_cons] at hR
     refine wpAny_bind (he i h1 h2 _ _ ?_)
     cases hy : e i with
     | true => rw [hy] at hR; wp_walk; exact Iaaea rfl rfl (i + 1) hrest (by simpa using hR)
     | false => rw [hy] at hR; wp_walk; exact Iea _ rfl (by simpa using hR)
   case fin =>
     rintro ⟨b1, b2⟩ s' ⟨hb', rfl, i, hz, hR⟩
     simp only at hb'
     subst hb'
     have hge : items.size ≤ i := by
       rcases Nat.lt_or_ge i (items.toList.zip items2.toList).length with h' | h'
       · rw [List.drop_eq_getElem_cons h'] at hz; cases hz
       · exact hZ ▸ h'
     rw [List.drop_of_length_le (by simpa using hge)] at hR
     wp_walk
     exact Iea _ rfl (by simpa [Builtin.Tuple.tupleCompareSizes, bne, hsz] using hR)
   case h => exact Iaaea rfl rfl 0 rfl (by simpa using h)
theorem lst_loopM (l b : Addr) (items items2 : Array Value) (n n2 : Nat) (dd dd2 : Option Addr) (sl sl2 : Array (Option Value)) (hsz : items.size = items2.size) (e : Nat → Bool) (k : Nat) :
   ∀ i : Nat, items.size - i = k → MeetsIn C.prog C.w (Builtin.«list.__eq__.loop» ⟨[.ref l, .ref b, rawInt i, rawInt 2], []⟩)
     (fun A R s => s.heap.get? l = some { cls := .type "list", dict := dd, data := .seq items n, slots := sl } ∧ s.heap.get? b = some { cls := .type "list", dict := dd2, data := .seq items2 n2, slots := sl2 } ∧
       (∀ j (h1 : j < items.size) (h2 : j < items2.size), EqM C A.in1 s items[j] items2[j] (e j)) ∧
       R (.ok (.ret (.bool (((List.range items.size).drop i).all e)))) s) := by
 induction k with
 | zero =>
   intro i hk A R s h
   obtain ⟨hp, g, d, tk, os⟩ := s; refine Xaaa h fun hl hb he h => ?_
   wp_walk using wpAny_loadPart' hl, wpAny_loadPart' hb
   have hi0 : items.size ≤ i := Nat.le_of_sub_eq_zero hk
   have hi1 : items[((i : Nat) : Int).toNat]? = none := Array.getElem?_eq_none hi0
   have hi2 : items2[((i : Nat) : Int).toNat]? = none := Array.getElem?_eq_none (hsz ▸ hi0)
   have hd : (List.range items.size).drop i = [] := List.drop_eq_nil_of_le (List.length_range ▸ hi0)
   rw [hd] at h
   rw [hi1, hi2]
   wp_walk using wpAny_loadPart' hl, wpAny_loadPart' hb
   show R (.ok (.ret (.bool (items.size == items2.size)))) _
   rw [hsz]
   simpa using h
 | succ k ih =>
   intro i hk A R s h
   obtain ⟨hp, g, d, tk, os⟩ := s; refine Xaaa h fun hl hb he h => ?_
   wp_walk using wpAny_loadPart' hl, wpAny_loadPart' hb
   have hlt : i < items.size := Nat.lt_of_sub_eq_succ hk
   have hlt2 : i < items2.size := hsz ▸ hlt
   haveI hi1 : items[((i : Nat) : Int).toNat]? = some items[i] := Array.getElem?_eq_getElem hlt
   haveI hi2 : items2[((i : Nat) : Int).toNat]? = some items2[i] := Array.getElem?_eq_getElem hlt2
   haveI hd : (List.range items.size).drop i = i :: (List.range items.size).drop (i + 1) := by rw [List.drop_eq_getElem_cons (List.length_range ▸ hlt), List.getElem_range]
   haveI hc : ((i : Int) + 1) = ((i + 1 : Nat) : Int) := rfl
   rw [hd, List.all_cons] at h
   rw [hi1, hi2]
   refine wpAny_bind (he i hlt hlt2 _ _ ?_)
   cases hb' : e i with
   | true =>
     rw [hb'] at h
     wp_walk
     rw [hc]
     exact ⟨plainId_quiet plain_eq_loop _, codeAny_builtin entry_eq_loop (by
       rw [Around.under_plainId plain_eq_loop _]
       exact ih (i + 1) (Nat.succ.inj ((sub_S hlt).symm.trans hk)) A R _ ⟨hl, hb, he, by simpa using h⟩)⟩
   | false =>
     rw [hb'] at h
     wp_walk using wpAny_loadPart' hl, wpAny_loadPart' hb
     rw [hi1, hi2]
     wp_walk
     simpa using h
theorem lst_eqM (l b : Addr) (items items2 : Array Value) (n n2 : Nat) (dd dd2 : Option Addr) (sl sl2 : Array (Option Value)) (hsz : items.size = items2.size) (e : Nat → Bool) :
   MeetsIn C.prog C.w (Builtin.«list.__eq__» ⟨[.ref l, .ref b], []⟩)
     (fun A R s => s.heap.get? l = some { cls := .type "list", dict := dd, data := .seq items n, slots := sl } ∧ s.heap.get? b = some { cls := .type "list", dict := dd2, data := .seq items2 n2, slots := sl2 } ∧
       (∀ j (h1 : j < items.size) (h2 : j < items2.size), EqM C A.in1 s items[j] items2[j] (e j)) ∧
       R (.ok (.ret (.bool ((List.range items.size).all e)))) s) := by
 intro A R s h
 obtain ⟨hp, g, d, tk, os⟩ := s; refine Xaaa h fun hl hb he h => ?_
 haveI f3 := AutoSeq1.sub_list_list
 haveI hne : ¬ (items.size != items2.size) = true := by simp [hsz]
 wp_walk using wpAny_loadPart' hl, wpAny_loadPart' hb
 exact ⟨plainId_quiet plain_eq_loop _, codeAny_builtin entry_eq_loop (by
   rw [Around.under_plainId plain_eq_loop _]
   exact lst_loopM l b items items2 n n2 dd dd2 sl sl2 hsz e _ 0 rfl A R _ ⟨hl, hb, he, by simpa using h⟩)⟩
end
end
noncomputable def eqT (es es' : LT) : Bool := es.length == es'.length && es.all fun p => decide (atT es' p.1 = some p.2)
section
variable {C : Cx} {P W : Mp} {A : Around} {s : Shared} {k : Nat} {E : Value → Shared → Prop}
theorem TR.atj : ∀ {es : LT} {xs : List (List KS × Addr × Value)} {j : Nat} {ks : List KS} {p : Addr × Value}, TR C.prog C.w P es xs → (es.map (·.1)).Nodup → xs[j]? = some (ks, p) → ∃ n t, p.2 = .int n t ∧ atT es ks = some n
 | _, _, _, _, _, .nil, _, e => by simp at e
 | _, _, 0, _, _, .cons (n := n) (t := t) h1 h2 h3 _, _, e => by simp at e; refine Xa e fun q0 q1 => ?_; subst q0; subst q1; exact Ieea n t rfl (by simp [atT])
 | _, _, j + 1, ks, p, .cons (ks := k0) (es := es) _ _ _ d, hn, e => by
   simp at e
   rw [List.map_cons, List.nodup_cons] at hn
   refine Xeea (d.atj hn.2 e) fun n t h1 h2 => ?_
   refine Ieea n t h1 ?_
   have hne : k0 ≠ ks := by
     rintro rfl
     apply hn.1
     rw [← d.keys]
     exact List.mem_map.mpr ⟨_, List.mem_of_getElem? e, rfl⟩
   unfold atT at h2 ⊢
   rw [List.find?_cons]
   simp only [hne, decide_false]
   exact h2
theorem same_pairs {nm : String} {a b : Addr} {oa ob : Obj} {es es' : LT} {Q : Bool → Shared → Prop} (hp : ∀ a o, P a = some o → s.heap.get? a = some o) (ha : (a == sysModules) = false) (hb : (b == sysModules) = false)
   (pa : s.heap.get? a = some oa) (pb : s.heap.get? b = some ob) (da : IsDctT C P oa es) (db : IsDctT C P ob es') (hu : A.units < cLine) (h : Q (eqT es es') s) : wpAny C.M A (Builtin.Dict.samePairs nm a b) Q E s := by
 refine Xeeeaaaa da fun xs dE ep a1 a2 a3 a4 a5 => ?_
 refine Xeeeaaaa db fun ys dF eq b1 b2 b3 b4 b5 => ?_
 have la : dE.size = es.length := by rw [← Array.length_toList, a3, List.length_map, ← a5.length]
 have lb : dF.size = es'.length := by rw [← Array.length_toList, b3, List.length_map, ← b5.length]
 unfold Builtin.Dict.samePairs Builtin.Dict.showsAll
 rw [if_neg (show ¬ (a == sysModules) = true by rw [ha]; exact Bool.false_ne_true), if_neg (show ¬ (b == sysModules) = true by rw [hb]; exact Bool.false_ne_true)]
 refine wpAny_bind (wpAny_pure (wpAny_bind (wpAny_pure ?_)))
 refine wpAny_bind (wpAny_dictEntries pa a2 ?_)
 dsimp only
 refine wpAny_bind (wpAny_dictEntries pb b2 ?_)
 by_cases hsz : dE.size = dF.size
 case neg =>
   rw [if_pos (by simpa using hsz)]
   have : eqT es es' = false := by
     unfold eqT
     have : (es.length == es'.length) = false := by rw [la, lb] at hsz; simpa using hsz
     rw [this]; rfl
   rw [this] at h
   exact wpAny_bind (wpAny_rule (wpAny_pure h))
 case pos =>
   have h' : Q (es.all fun p => decide (atT es' p.1 = some p.2)) s := by
     unfold eqT at h
     have : (es.length == es'.length) = true := by rw [la, lb] at hsz; simpa using hsz
     rw [this] at h; exact h
   rw [if_neg (by rw [hsz]; simp)]
   refine wpAny_bind (wpAny_dictEpoch pa a2 ?_)
   refine wpAny_bind ?_
   rw [Std.Legacy.Range.forIn_eq_forIn_range']
   simp only [Std.Legacy.Range.size, Nat.sub_zero, Nat.add_sub_cancel, Nat.div_one]
   refine wpAny_forIn_list _
     (fun rest q s' => s' = s ∧ q = (none, ()) ∧ ∃ i, rest = List.range' i (dE.size - i) ∧ i ≤ dE.size ∧ Q ((es.drop i).all fun p => decide (atT es' p.1 = some p.2)) s)
     _ ?_ ?_ _ _ ⟨rfl, rfl, 0, by simp, Nat.zero_le _, h'⟩
   · rintro x rest q s' ⟨rfl, rfl, i, hr, hi, hpre⟩
     have hlt : i < dE.size := by
       rcases Nat.lt_or_ge i dE.size with h | h
       · exact h
       · rw [Nat.sub_eq_zero_of_le h] at hr; simp at hr
     obtain ⟨rfl, hrest⟩ : x = i ∧ rest = List.range' (i + 1) (dE.size - (i + 1)) := by
       haveI e : dE.size - i = (dE.size - (i + 1)) + 1 := sub_S hlt
       rw [e, List.range'_succ] at hr
       injection hr with h1 h2
       exact ⟨h1, h2⟩
     have hl : x < es.length := la ▸ hlt
     refine Xeeeeaaa (a5.get (i := x) (ks := es[x].1) (n := es[x].2) (List.getElem?_eq_getElem hl)) fun ad t ok vs g1 g2 g3 g4 => ?_
     have hx : dE[x]? = some (entryOfKey C.kt (es[x].1, ad, .int es[x].2 t)) := by rw [← Array.getElem?_toList, a3, List.getElem?_map, g1]; rfl
     rw [List.drop_eq_getElem_cons hl, List.all_cons] at hpre
     refine wpAny_bind (wpAny_dictEntries pa a2 ?_)
     rw [hx]
     refine wpAny_bind (wpAny_holding (wpAny_bind (wpAny_dictFind_heap (knd := C.kt) hu (kt_is (hp _ _ g2) g3 g4) pb b2 b3 (b5.is hp) (by rw [b5.keys]; exact b4) ?_ ?_)))
     · intro hno
       have hat : atT es' es[x].1 = none := by
         cases q : atT es' es[x].1 with
         | none => rfl
         | some n =>
           refine Xee (b5.at_some q) fun a' t' e => ?_
           haveI := atKey_none_of_get hno
           rw [this] at e; cases e
       rw [hat] at hpre
       refine wpAny_pure ?_
       show wpAny _ _ (if (!false) = true then _ else _) _ _ _
       rw [if_pos dc]
       exact wpAny_pure (wpAny_pure (by simpa using hpre))
     · intro j p hj
       refine Xeea (b5.atj b4 hj) fun n' t' e1 e2 => ?_
       haveI hy : dF[j]? = some (entryOfKey C.kt (es[x].1, p)) := by rw [← Array.getElem?_toList, b3, List.getElem?_map, hj]; rfl
       refine wpAny_bind (wpAny_dictEntries pb b2 ?_)
       rw [hy]
       rw [e2] at hpre
       haveI ev : (entryOfKey C.kt (es[x].1, p)).val = .int n' t' := e1
       refine wpAny_holding ?_
       show wpAny _ _ (eqBool (.int es[x].2 t) (entryOfKey C.kt (es[x].1, p)).val) _ _ _
       rw [ev]
       refine wpAny_eqBool_int ?_
       by_cases hq : n' = es[x].2
       · subst hq
         simp only [decide_true, Bool.true_and] at hpre
         have : (es[x].2 == es[x].2) = true := by simp
         rw [this]
         show wpAny _ _ (if (!true) = true then _ else _) _ _ _
         rw [if_neg dc]
         refine wpAny_bind (wpAny_dictEpoch pa a2 ?_)
         rw [if_neg (by simp)]
         exact wpAny_pure ⟨rfl, rfl, x + 1, hrest, hlt, hpre⟩
       · haveI : (es[x].2 == n') = false := by simpa using fun e => hq e.symm
         rw [this]
         show wpAny _ _ (if (!false) = true then _ else _) _ _ _
         rw [if_pos dc]
         refine wpAny_pure (wpAny_pure ?_)
         haveI : decide (some n' = some es[x].2) = false := by simpa using hq
         rw [this] at hpre
         simpa using hpre
   · rintro q s' ⟨rfl, rfl, i, hr, hi, hpre⟩
     haveI hin : i = dE.size := by
       rcases Nat.lt_or_ge i dE.size with h | h
       · haveI e : dE.size - i = (dE.size - (i + 1)) + 1 := sub_S h
         rw [e, List.range'_succ] at hr; exact nomatch hr
       · exact Nat.le_antisymm hi h
     refine wpAny_pure ?_
     rw [hin, la, List.drop_length] at hpre
     exact hpre
theorem dct_eq {a b : Addr} {oa ob : Obj} {es es' : LT} (hp : ∀ a o, P a = some o → s.heap.get? a = some o) (ha : (a == sysModules) = false) (hb : (b == sysModules) = false)
   (pa : s.heap.get? a = some oa) (pb : s.heap.get? b = some ob) (da : IsDctT C P oa es) (db : IsDctT C P ob es') (hu : A.units + 1 < cLine) : RcM C .Eq A s (.ref a) (.ref b) (eqT es es') := by
 intro E Q h
 have ta : s.TypeIs (.ref a) "dict" := by refine Xeeea (id da) fun _ _ _ x _ => ?_; exact Iea oa pa x.1
 haveI tb : s.TypeIs (.ref b) "dict" := by refine Xeeea (id db) fun _ _ _ x _ => ?_; exact Iea ob pb x.1
 refine wpAny_richCompare_same_room (op := .Eq) ta tb PySem.F.slot_dict_eq (wpAny_call_entry PySem.F.slot_dict_eq ta PySem.F.entry_dict_eq ?_ (PySem.F.args_dict_eq_2 _ _)) (by lia)
 show wpAny _ _ (Builtin.Dict.dictSlotArgs "__eq__" ⟨[.ref a, .ref b], []⟩ >>= _) _ _ s
 refine wpAny_bind ?_
 unfold Builtin.Dict.dictSlotArgs
 refine wpAny_bind (wpAny_notOrdered_dict ta ?_)
 show wpAny _ _ (pure (Value.ref a, Value.ref b)) _ _ s
 refine wpAny_pure (wpAny_bind (wpAny_isInstance (T := "dict") tb PySem.F.sub_dict_dict ?_))
 simp only [Bool.not_true, Bool.false_eq_true, if_false]
 refine wpAny_bind (wpAny_pure (wpAny_bind (wpAny_pure (wpAny_bind (same_pairs hp ha hb pa pb da db hu ?_)))))
 exact wpAny_pure ⟨_, rfl, (fun x => nomatch x), by simpa using h⟩
end
noncomputable def dTD : D → Option (LT)
 | .dT n => some n
 | _ => none
theorem dTD_eq {d : D} {n : LT} (h : dTD d = some n) : d = .dT n := by
 cases d with
 | dT x => cases h; rfl
 | _ => cases h
mutual
noncomputable def eqD : D → D → Option Bool
 | .int a, b => (intD b).map fun b => a == b
 | .tup xs, b => (tupD b).bind fun ys => if xs.length = ys.length then eqDs xs ys else none
 | .list xs, b => (lstD b).bind fun ys => if xs.length = ys.length then eqDs xs ys else some false
 | .dT es, b => (dTD b).map fun es' => eqT es es'
 | _, _ => none
noncomputable def eqDs : List D → List D → Option Bool
 | x :: xs, y :: ys => (eqD x y).bind fun b => (eqDs xs ys).map fun r => b && r
 | _, _ => some true
end
inductive EqI : D → D → Bool → Prop
 | ii (x y : Int) : EqI (.int x) (.int y) (x == y)
 | tt (xs ys : List D) (r : Bool) (hl : xs.length = ys.length) (h : eqDs xs ys = some r) : EqI (.tup xs) (.tup ys) r
 | ll (xs ys : List D) (r : Bool) (hl : xs.length = ys.length) (h : eqDs xs ys = some r) : EqI (.list xs) (.list ys) r
 | ln (xs ys : List D) (hl : xs.length ≠ ys.length) : EqI (.list xs) (.list ys) false
 | dd (es es' : LT) : EqI (.dT es) (.dT es') (eqT es es')
theorem eq_inv {a b : D} {r : Bool} (h : eqD a b = some r) : EqI a b r := by
 cases a with
 | int x => refine ms1 (x := intD b) h fun y e q => ?_; obtain rfl := intD_eq e; subst q; exact .ii x y
 | tup xs =>
   refine bs1 (x := tupD b) h fun ys e g => ?_
   obtain rfl := tupD_eq e
   refine Xa (ifG g) fun hl g => ?_
   exact .tt xs ys r hl g
 | list xs =>
   refine bs1 (x := lstD b) h fun ys e g => ?_
   obtain rfl := lstD_eq e
   by_cases hl : xs.length = ys.length
   · rw [if_pos hl] at g; exact .ll xs ys r hl g
   · rw [if_neg hl] at g; cases g; exact .ln xs ys hl
 | dT es => refine ms1 (x := dTD b) h fun y e q => ?_; obtain rfl := dTD_eq e; subst q; exact .dd es y
 | _ => cases h
mutual
noncomputable def dep : D → Nat
 | .tup xs => depS xs + 2
 | .list xs => depS xs + 2
 | _ => 2
noncomputable def depS : List D → Nat
 | [] => 0
 | x :: xs => max (dep x) (depS xs)
end
section
variable {C : Cx} {P W : Mp} {A : Around} {s : Shared} {k : Nat} {E : Value → Shared → Prop}
theorem ItemsAre.inj {ks : List KS} {vs : List Value} (h : PySem.ItemsAre (ksKind C.prog C.w) ks vs) : ∀ {ks' : List KS}, PySem.ItemsAre (ksKind C.prog C.w) ks' vs → ks = ks' := by
 induction h with
 | nil => intro ks' h'; cases h'; rfl
 | cons a b ih => intro ks' h'; cases h' with | cons c d => rw [(ksKind C.prog C.w).inj _ _ _ a c, ih d]
theorem IsTupO.inj {o : Obj} {vs us : List Value} (a : IsTupO o vs) (b : IsTupO o us) : vs = us := by
 refine Xe a fun n q1 => ?_; subst q1
 refine Xe b fun m e => ?_
 injection e with _ _ e _
 injection e with e _
 simpa using e
theorem IsLst.inj {o : Obj} {vs us : List Value} (a : IsLst o vs) (b : IsLst o us) : vs = us := by
 refine Xe a fun n q1 => ?_; subst q1
 refine Xe b fun m e => ?_
 injection e with _ _ e _
 injection e with e _
 simpa using e
theorem TR.inj {es : LT} {xs : List (List KS × Addr × Value)} (h : TR C.prog C.w P es xs) : ∀ {es' : LT} {ys : List (List KS × Addr × Value)}, TR C.prog C.w P es' ys → xs.map (entryOfKey C.kt) = ys.map (entryOfKey C.kt) → es = es' := by
 induction h with
 | nil =>
   intro es' ys h' e
   cases h' with
   | nil => rfl
   | cons => exact absurd (congrArg List.length e) (by simp)
 | cons a b c d ih =>
   intro es' ys h' e
   cases h' with
   | nil => exact absurd (congrArg List.length e) (by simp)
   | cons a' b' c' d' =>
     rw [List.map_cons, List.map_cons] at e
     have e1 := List.head_eq_of_cons_eq e
     have e2 := List.tail_eq_of_cons_eq e
     haveI h1 := congrArg DictEntry.key e1
     haveI h2 := congrArg DictEntry.val e1
     haveI h3 := Value.ref.inj h1
     haveI h4 := (Value.int.inj h2).1
     clear h1 h2 e1
     subst h3
     rw [a] at a'
     obtain rfl := Option.some.inj a'
     obtain rfl := IsTupO.inj b b'
     rw [ItemsAre.inj c c', h4, ih d' e2]
theorem eqT_refl {es : LT} (hn : (es.map (·.1)).Nodup) : eqT es es = true := by
 unfold eqT
 simp only [beq_self_eq_true, Bool.true_and, List.all_eq_true, decide_eq_true_eq]
 intro p hp
 induction es with
 | nil => cases hp
 | cons q r ih =>
   rw [List.map_cons, List.nodup_cons] at hn
   unfold atT
   rw [List.find?_cons]
   rcases List.mem_cons.mp hp with rfl | h
   · simp
   · haveI hne : q.1 ≠ p.1 := fun e => hn.1 (List.mem_map.mpr ⟨p, h, e.symm⟩)
     simp only [hne, decide_false]
     exact ih hn.2 h
mutual
theorem eqD_same (a : D) : ∀ {b : D} {r : Bool} {v : Value}, Rep C P a v → Rep C P b v → eqD a b = some r → r = true := by
 cases a with
 | int x =>
   intro b r v ha hb h
   refine ms1 (x := intD b) h fun y e q => ?_
   obtain rfl := intD_eq e
   refine Xe ha fun t h1 => ?_
   refine Xe hb fun t' h2 => ?_
   rw [h1] at h2
   rw [← q, (Value.int.inj h2).1]; exact beq_self_eq_true y
 | tup xs =>
   intro b r v ha hb h
   refine bs1 (x := tupD b) h fun ys e g => ?_
   obtain rfl := tupD_eq e
   refine Xeeeaaa ha fun l o vs e p q r1 => ?_
   refine Xeeeaaa hb fun l' o' vs' e' p' q' r' => ?_
   rw [e] at e'
   obtain rfl := Value.ref.inj e'
   rw [p] at p'
   obtain rfl := Option.some.inj p'
   obtain rfl := IsTupO.inj q q'
   exact eqDs_same xs r1 r' (ifG g).2
 | list xs =>
   intro b r v ha hb h
   refine bs1 (x := lstD b) h fun ys e g => ?_
   obtain rfl := lstD_eq e
   refine Xeeeaaa ha fun l o vs e p q r1 => ?_
   refine Xeeeaaa hb fun l' o' vs' e' p' q' r' => ?_
   rw [e] at e'
   obtain rfl := Value.ref.inj e'
   rw [p] at p'
   obtain rfl := Option.some.inj p'
   obtain rfl := IsLst.inj q q'
   rw [if_pos (by rw [r1.length, r'.length])] at g
   exact eqDs_same xs r1 r' g
 | dT es =>
   intro b r v ha hb h
   refine ms1 (x := dTD b) h fun ys e g => ?_
   obtain rfl := dTD_eq e
   refine Xeeaaa ha fun l o e p q _ => ?_
   refine Xeeaaa hb fun l' o' e' p' q' _ => ?_
   rw [e] at e'
   obtain rfl := Value.ref.inj e'
   rw [p] at p'
   obtain rfl := Option.some.inj p'
   refine Xeeeaaaa q fun xs dE ep a1 a2 a3 a4 a5 => ?_
   refine Xeeeaaaa q' fun ys dF eq b1 b2 b3 b4 b5 => ?_
   rw [a2] at b2
   obtain rfl := (Data.dict.inj b2).1
   obtain rfl := a5.inj b5 (a3.symm.trans b3)
   rw [← g, eqT_refl a4]
 | _ => intro b r v _ _ h; cases h
theorem eqDs_same (xs : List D) : ∀ {ys : List D} {r : Bool} {vs : List Value}, Reps C P xs vs → Reps C P ys vs → eqDs xs ys = some r → r = true := by
 cases xs with
 | nil => intro ys r vs _ _ h; cases ys <;> exact (sinj h).symm
 | cons x xs =>
   intro ys r vs h1 h2 h
   cases ys with
   | nil => exact (sinj h).symm
   | cons y ys =>
     refine Xeeaa h1 fun v vs e p q => ?_
     refine Xeeaa h2 fun v' vs' e' p' q' => ?_
     rw [e] at e'
     obtain rfl := List.head_eq_of_cons_eq e'
     obtain rfl := List.tail_eq_of_cons_eq e'
     refine bs1 (x := eqD x y) h fun b h1 h2 => ?_
     refine ms1 (x := eqDs xs ys) h2 fun c h3 h4 => ?_
     rw [← h4, eqD_same x p p' h1, eqDs_same xs q q' h3]; rfl
end
theorem EqM.of_rc {l b : Addr} {r : Bool} (hs : l = b → r = true) (h : RcM C .Eq A s (.ref l) (.ref b) r) : EqM C A s (.ref l) (.ref b) r := fun E Q hq => by
 unfold eqBool
 refine wpAny_holding ?_
 refine wpAny_ite_split (fun hab => ?_) (fun _ => wpAny_bind (h E _ (wpAny_truthy_bool hq)))
 have : l = b := by have := eq_of_beq hab; injection this
 rw [hs this] at hq
 exact wpAny_bind (wpAny_rule (wpAny_pure hq))
theorem all_range_cons {n : Nat} {e : Nat → Bool} : (List.range (n + 1)).all e = (e 0 && (List.range n).all fun i => e (i + 1)) := by
 rw [List.range_succ_eq_map, List.all_cons, List.all_map]; rfl
noncomputable def Elt (C : Cx) (A : Around) (s : Shared) : List Value → List Value → List Bool → Prop
 | v :: vs, u :: us, b :: bs => EqM C A s v u b ∧ Elt C A s vs us bs
 | [], [], [] => True
 | _, _, _ => False
theorem Elt.get {vs : List Value} : ∀ {us : List Value} {bs : List Bool}, Elt C A s vs us bs → vs.length = us.length ∧ vs.length = bs.length ∧ ∀ j (h1 : j < vs.length) (h2 : j < us.length), EqM C A s vs[j] us[j] (bs.getD j true) := by
 induction vs with
 | nil =>
   intro us bs h
   cases us with
   | nil => cases bs with
     | nil => exact ⟨rfl, rfl, fun j h => absurd h (Nat.not_lt_zero j)⟩
     | cons => exact h.elim
   | cons => exact h.elim
 | cons v vs ih =>
   intro us bs h
   cases us with
   | nil => exact h.elim
   | cons u us => cases bs with
     | nil => exact h.elim
     | cons b bs =>
       refine Xaa (ih h.2) fun a a' c => ?_
       refine ⟨congrArg (· + 1) a, congrArg (· + 1) a', fun j h3 h4 => ?_⟩
       cases j with
       | zero => exact h.1
       | succ j => exact c j (Nat.lt_of_succ_lt_succ h3) (Nat.lt_of_succ_lt_succ h4)
theorem all_getD : ∀ (bs : List Bool), (List.range bs.length).all (fun j => bs.getD j true) = bs.all id
 | [] => rfl
 | b :: bs => by rw [List.length_cons, all_range_cons, List.all_cons, ← all_getD bs]; rfl
theorem rc_tup {l b : Addr} {o o' : Obj} {vs us : List Value} {bs : List Bool} (p : s.heap.get? l = some o) (q : IsTupO o vs) (p' : s.heap.get? b = some o') (q' : IsTupO o' us) (hu : A.units < cLine) (h : Elt C A.in1 s vs us bs) : RcM C .Eq A s (.ref l) (.ref b) (bs.all id) := by
 intro E Q hq
 refine Xe q fun n q1 => ?_; subst q1
 refine Xe q' fun m q1 => ?_; subst q1
 refine Xaa h.get fun h1 h2 h3 => ?_
 haveI e := tup_eqM (C := C) l b vs.toArray us.toArray n m none none #[] #[] (fun j => bs.getD j true) (by simpa using h1)
 refine wpAny_richCompare_same_room (op := .Eq) ⟨_, p, rfl⟩ ⟨_, p', rfl⟩ PySem.F.slot_tuple_eq (call_meetsIn PySem.F.slot_tuple_eq ⟨_, p, rfl⟩ PySem.F.entry_tuple_eq (PySem.F.args_tuple_eq_2 _ _) e ⟨p, p', fun j j1 j2 => by simpa using h3 j (by simpa using j1) (by simpa using j2), ?_⟩) hu
 haveI : (List.range vs.toArray.size).all (fun j => bs.getD j true) = bs.all id := by rw [List.size_toArray, h2, all_getD]
 rw [this]
 exact ⟨(fun x => nomatch x), hq⟩
theorem rc_tup_ne {l b : Addr} {o o' : Obj} {vs us : List Value} {bs : List Bool} (p : s.heap.get? l = some o) (q : IsTupO o vs) (p' : s.heap.get? b = some o') (q' : IsTupO o' us) (hu : A.units < cLine) (h : Elt C A.in1 s vs us bs) : RcM C .NotEq A s (.ref l) (.ref b) (!bs.all id) := by
 intro E Q hq
 refine Xe q fun n q1 => ?_; subst q1
 refine Xe q' fun m q1 => ?_; subst q1
 refine Xaa h.get fun h1 h2 h3 => ?_
 have e := tup_neM (C := C) l b vs.toArray us.toArray n m none none #[] #[] (fun j => bs.getD j true) (by simpa using h1)
 refine wpAny_richCompare_same_room (op := .NotEq) ⟨_, p, rfl⟩ ⟨_, p', rfl⟩ PySem.F.slot_tuple_ne (call_meetsIn PySem.F.slot_tuple_ne ⟨_, p, rfl⟩ PySem.F.entry_tuple_ne (PySem.F.args_tuple_ne_2 _ _) e ⟨p, p', fun j j1 j2 => by simpa using h3 j (by simpa using j1) (by simpa using j2), ?_⟩) hu
 have : (List.range vs.toArray.size).all (fun j => bs.getD j true) = bs.all id := by rw [List.size_toArray, h2, all_getD]
 rw [this]
 exact ⟨(fun x => nomatch x), hq⟩
theorem rc_lst {l b : Addr} {o o' : Obj} {vs us : List Value} {bs : List Bool} (p : s.heap.get? l = some o) (q : IsLst o vs) (p' : s.heap.get? b = some o') (q' : IsLst o' us) (hu : A.units < cLine) (h : Elt C A.in1 s vs us bs) : RcM C .Eq A s (.ref l) (.ref b) (bs.all id) := by
 intro E Q hq
 refine Xe q fun n q1 => ?_; subst q1
 refine Xe q' fun m q1 => ?_; subst q1
 refine Xaa h.get fun h1 h2 h3 => ?_
 have e := lst_eqM (C := C) l b vs.toArray us.toArray n m none none #[] #[] (by simpa using h1) (fun j => bs.getD j true)
 refine wpAny_richCompare_same_room (op := .Eq) ⟨_, p, rfl⟩ ⟨_, p', rfl⟩ PySem.F.slot_list_eq (call_meetsIn PySem.F.slot_list_eq ⟨_, p, rfl⟩ PySem.F.entry_list_eq (PySem.F.args_list_eq_2 _ _) e ⟨p, p', fun j j1 j2 => by simpa using h3 j (by simpa using j1) (by simpa using j2), ?_⟩) hu
 have : (List.range vs.toArray.size).all (fun j => bs.getD j true) = bs.all id := by rw [List.size_toArray, h2, all_getD]
 rw [this]
 exact ⟨(fun x => nomatch x), hq⟩
theorem dep_le (xs : List D) : ∀ x ∈ xs, dep x ≤ depS xs := by
 induction xs with
 | nil => intro x h; cases h
 | cons y ys ih =>
   intro x h
   unfold depS
   rcases List.mem_cons.mp h with rfl | h
   · exact Nat.le_max_left _ _
   · exact Nat.le_trans (ih x h) (Nat.le_max_right _ _)
noncomputable def eqRow : List D → List D → Option (List Bool)
 | x :: xs, y :: ys => (eqD x y).bind fun b => (eqRow xs ys).map (b :: ·)
 | _, _ => some []
theorem eqDs_row (xs : List D) : ∀ {ys : List D} {r : Bool}, eqDs xs ys = some r → ∃ bs, eqRow xs ys = some bs ∧ bs.all id = r := by
 induction xs with
 | nil => intro ys r h; exact ⟨[], by cases ys <;> rfl, by cases ys <;> exact sinj h⟩
 | cons x xs ih =>
   intro ys r h
   cases ys with
   | nil => exact ⟨[], rfl, sinj h⟩
   | cons y ys =>
     refine bs1 (x := eqD x y) h fun b h1 h2 => ?_
     refine ms1 (x := eqDs xs ys) h2 fun c h3 h4 => ?_
     refine Xea (ih h3) fun bs h5 h6 => ?_
     refine Iea (b :: bs) ?_ (by rw [List.all_cons, h6, ← h4]; rfl)
     show (eqD x y).bind _ = _
     rw [h1]
     show (eqRow xs ys).map _ = _
     rw [h5]; rfl
theorem row_of (xs : List D) : ∀ {ys : List D} {bs : List Bool} {vs us : List Value}, xs.length = ys.length → Reps C P xs vs → Reps C P ys us → eqRow xs ys = some bs →
   (∀ x ∈ xs, ∀ y b u v, Rep C P x u → Rep C P y v → eqD x y = some b → EqM C A s u v b) → Elt C A s vs us bs := by
 induction xs with
 | nil =>
   intro ys bs vs us hl h1 h2 h3 _
   cases ys with
   | nil => obtain rfl := sinj h3; rw [show vs = [] from h1, show us = [] from h2]; trivial
   | cons => cases hl
 | cons x xs ih =>
   intro ys bs vs us hl h1 h2 h3 H
   cases ys with
   | nil => cases hl
   | cons y ys =>
     refine Xeeaa h1 fun v vs' q2 p1 q1 => ?_; subst q2
     refine Xeeaa h2 fun u us' q2 p2 q3 => ?_; subst q2
     refine bs1 (x := eqD x y) h3 fun b e1 h4 => ?_
     refine ms1 (x := eqRow xs ys) h4 fun bs' e2 q => ?_
     subst q
     exact ⟨H x (.head _) y b v u p1 p2 e1, ih (Nat.succ.inj hl) q1 q3 e2 fun z hz => H z (.tail _ hz)⟩
theorem dep_in {xs : List D} {n : Nat} (h : depS xs + 2 ≤ n + 1) {x : D} (hx : x ∈ xs) : dep x ≤ n := Nat.le_trans (dep_le xs x hx) (Nat.le_of_lt (Nat.le_of_succ_le_succ h))
theorem dep_un {xs : List D} {A : Around} (h : A.units + (depS xs + 2) < cLine) {x : D} (hx : x ∈ xs) : A.in1.units + dep x < cLine := by
 haveI := dep_le xs x hx
 show A.units + 1 + dep x < cLine
 lia
theorem eqM_rep (n : Nat) : ∀ (a b : D) (r : Bool) (u v : Value) (A : Around), dep a ≤ n → A.units + dep a < cLine → (∀ x o, P x = some o → s.heap.get? x = some o) → Rep C P a u → Rep C P b v → eqD a b = some r →
   EqM C A s u v r ∧ (∀ l m, u = .ref l → v = .ref m → RcM C .Eq A s u v r) := by
 induction n with
 | zero => intro a b r u v A hn; cases a <;> exact absurd hn (Nat.not_succ_le_zero _)
 | succ n ih =>
   intro a b r u v A hn hu hp ha hb e
   haveI un : A.units < cLine := Nat.lt_of_le_of_lt (Nat.le_add_right _ _) hu
   have two : ∀ {l m : Addr}, u = .ref l → v = .ref m → RcM C .Eq A s (.ref l) (.ref m) r → EqM C A s u v r ∧ (∀ l m, u = .ref l → v = .ref m → RcM C .Eq A s u v r) := fun h1 h2 rc => by
     subst h1 h2
     exact ⟨.of_rc (fun h => by subst h; exact eqD_same _ ha hb e) rc, fun _ _ _ _ => rc⟩
   cases eq_inv e with
   | ii x y =>
     refine Xe ha fun t q1 => ?_; subst q1
     refine Xe hb fun t' q1 => ?_; subst q1
     exact ⟨fun E Q hq => wpAny_eqBool_int hq, fun l m q => nomatch q⟩
   | tt xs ys _ hl h =>
     refine Xeeeaaa ha fun l o vs q3 p1 q1 r1 => ?_
     refine Xeeeaaa hb fun m o' us q4 p2 q2 r2 => ?_
     refine Xea (eqDs_row xs h) fun bs e1 e2 => ?_
     refine two q3 q4 ?_
     rw [← e2]
     exact rc_tup (hp _ _ p1) q1 (hp _ _ p2) q2 un (row_of xs hl r1 r2 e1 fun x hx y b u v g1 g2 g3 => (ih x y b u v A.in1 (dep_in hn hx) (dep_un hu hx) hp g1 g2 g3).1)
   | ll xs ys _ hl h =>
     refine Xeeeaaa ha fun l o vs q3 p1 q1 r1 => ?_
     refine Xeeeaaa hb fun m o' us q4 p2 q2 r2 => ?_
     refine Xea (eqDs_row xs h) fun bs e1 e2 => ?_
     refine two q3 q4 ?_
     rw [← e2]
     exact rc_lst (hp _ _ p1) q1 (hp _ _ p2) q2 un (row_of xs hl r1 r2 e1 fun x hx y b u v g1 g2 g3 => (ih x y b u v A.in1 (dep_in hn hx) (dep_un hu hx) hp g1 g2 g3).1)
   | ln xs ys hl =>
     refine Xeeeaaa ha fun l o vs q3 p1 q1 r1 => ?_
     refine Xeeeaaa hb fun m o' us q4 p2 q2 r2 => ?_
     exact two q3 q4 fun E Q hq => SeqAt.RcAt.lists_lengths (q1.list (hp _ _ p1)) (q2.list (hp _ _ p2)) (by
           haveI h1 := r1.length; haveI h2 := r2.length
           rw [List.size_toArray, List.size_toArray, ← h1, ← h2]; exact bne_iff_ne.mpr hl) un _ _ E Q hq
   | dd es es' =>
     refine Xeeaaa ha fun l o q2 p1 q1 lo => ?_
     refine Xeeaaa hb fun m o' q3 p2 q4 lo' => ?_
     refine two q2 q3 ?_
     exact dct_eq hp (lo_ne lo) (lo_ne lo') (hp _ _ p1) (hp _ _ p2) q1 q4 (Nat.lt_of_succ_lt hu)
end
section
noncomputable def eqC : D → D → Option Bool
 | .int x, b => (intD b).map fun y => x == y
 | .tup xs, b => (tupD b).bind fun ys => if dep (.tup xs) ≤ 9 then eqD (.tup xs) (.tup ys) else none
 | .list xs, b => (lstD b).bind fun ys => if dep (.list xs) ≤ 9 then eqD (.list xs) (.list ys) else none
 | _, _ => none
theorem eqC_ok : CmpS C k .Eq eqC := by
 intro A P W s a b r u v Q Rm S ha hb e h
 cases a with
 | int x => refine ms1 (x := intD b) e fun y e1 q => ?_; obtain rfl := intD_eq e1; subst q; refine Xe ha fun t q1 => ?_; subst q1; refine Xe hb fun t' q1 => ?_; subst q1; exact PySem.P.eq_int (h s.toks)
 | tup xs =>
   refine bs1 (x := tupD b) e fun ys e1 g => ?_
   obtain rfl := tupD_eq e1
   refine Xa (ifG g) fun hd e => ?_
   refine Xeeea ha fun l o vs q3 _ => ?_
   refine Xeeea hb fun m o' us q4 _ => ?_
   have hu := Rm.2.2
   have := (eqM_rep _ _ _ r _ _ A (Nat.le_refl _) (by omega) S.p ha hb e).2 l m q3 q4 NoE Q (h s.toks)
   rw [q3, q4] at this ⊢; exact this
 | list xs =>
   refine bs1 (x := lstD b) e fun ys e1 g => ?_
   obtain rfl := lstD_eq e1
   refine Xa (ifG g) fun hd e => ?_
   refine Xeeea ha fun l o vs q3 _ => ?_
   refine Xeeea hb fun m o' us q4 _ => ?_
   have hu := Rm.2.2
   have := (eqM_rep _ _ _ r _ _ A (Nat.le_refl _) (by omega) S.p ha hb e).2 l m q3 q4 NoE Q (h s.toks)
   rw [q3, q4] at this ⊢; exact this
 | _ => cases e
noncomputable def neC : D → D → Option Bool
 | .str x, b => (strD b).map fun y => !decide (x = y)
 | .tup xs, b => (tupD b).bind fun ys => if dep (.tup xs) ≤ 9 ∧ xs.length = ys.length then (eqDs xs ys).map (!·) else none
 | .list xs, b => (lstD b).bind fun ys => if ys.length = 0 then some (!(xs.length == 0)) else none
 | _, _ => none
theorem neC_ok : CmpS C k .NotEq neC := by
 intro A P W s a b r u v Q Rm S ha hb e h
 have hu : A.units < cLine := Nat.lt_of_le_of_lt (Nat.le_trans (Nat.le_add_right _ _) (Nat.le_add_right _ _)) Rm.2.2
 have hu9 : A.units + 9 < cLine := Nat.lt_of_le_of_lt (Nat.add_le_add (Nat.le_add_right _ _) dc) Rm.2.2
 cases a with
 | str x => refine ms1 (x := strD b) e fun y e1 q => ?_; obtain rfl := strD_eq e1; subst q; refine Xe ha fun t q1 => ?_; subst q1; refine Xe hb fun t' q1 => ?_; subst q1; exact PySem.P.ne_str (by unfold bne; rw [strBeq]; exact h s.toks)
 | tup xs =>
   refine bs1 (x := tupD b) e fun ys e1 g => ?_
   obtain rfl := tupD_eq e1
   refine Xa (ifG g) fun hd e => ?_
   refine ms1 e fun q e1 q0 => ?_
   subst q0
   refine Xea (eqDs_row xs e1) fun bs e2 e3 => ?_
   refine Xeeeaaa ha fun l o vs q3 p1 q1 r1 => ?_; subst q3
   refine Xeeeaaa hb fun m o' us q3 p2 q2 r2 => ?_; subst q3
   have hd9 : A.units + (depS xs + 2) < cLine := Nat.lt_of_le_of_lt (Nat.add_le_add_left hd.1 _) hu9
   refine rc_tup_ne (S.p _ _ p1) q1 (S.p _ _ p2) q2 hu (row_of xs hd.2 r1 r2 e2 fun x hx y b u v g1 g2 g3 => (eqM_rep _ x y b u v A.in1 (Nat.le_refl _) (dep_un hd9 hx) S.p g1 g2 g3).1) NoE Q ?_
   rw [e3]; exact h s.toks
 | list xs =>
   refine bs1 (x := lstD b) e fun ys e1 g => ?_
   obtain rfl := lstD_eq e1
   refine Xa (ifI g) fun hy q => ?_
   subst q
   refine Xeeeaaa ha fun l o vs q3 p1 q1 r1 => ?_; subst q3
   refine Xeeeaaa hb fun m o' us q3 p2 q2 r2 => ?_; subst q3
   have hl := r1.length
   haveI hl2 := r2.length
   obtain rfl : us = [] := List.length_eq_zero_iff.mp (hl2.symm.trans hy)
   by_cases h0 : xs.length = 0
   · obtain rfl : vs = [] := List.length_eq_zero_iff.mp (hl.symm.trans h0)
     refine SeqAt.RcNeAt.lists (e := fun _ => true) (q1.list (S.p _ _ p1)) (q2.list (S.p _ _ p2)) rfl hu (fun j h1 => absurd h1 (Nat.not_lt_zero j)) C.prog C.w NoE Q ?_
     haveI := h s.toks
     rw [h0] at this
     exact this
   · refine SeqAt.RcNeAt.lists_lengths (q1.list (S.p _ _ p1)) (q2.list (S.p _ _ p2)) (bne_iff_ne.mpr fun e => h0 (hl.trans e)) hu C.prog C.w NoE Q ?_
     haveI := h s.toks
     rw [beq_eq_false_iff_ne.mpr h0] at this
     exact this
 | _ => cases e
theorem eqD_i (a : Int) : eqD (.int a) (.int a) = some true := congrArg some (beq_self_eq_true a)
theorem eqDs_c {x y : D} {xs ys : List D} (h1 : eqD x y = some true) (h2 : eqDs xs ys = some true) : eqDs (x :: xs) (y :: ys) = some true := by
 show (eqD x y).bind _ = _
 rw [h1]
 show (eqDs xs ys).map _ = _
 rw [h2]; rfl
theorem eqD_t {xs ys : List D} {r : Option Bool} (hl : xs.length = ys.length) (h : eqDs xs ys = r) : eqD (.tup xs) (.tup ys) = r := (if_pos hl).trans h
theorem eqD_l {xs ys : List D} {r : Option Bool} (hl : xs.length = ys.length) (h : eqDs xs ys = r) : eqD (.list xs) (.list ys) = r := (if_pos hl).trans h
theorem neC_t {xs ys : List D} (h : dep (.tup xs) ≤ 9 ∧ xs.length = ys.length) (h2 : eqDs xs ys = some true) : neC (.tup xs) (.tup ys) = some false := (if_pos h).trans (by rw [h2]; rfl)
theorem eqD_T {a b : LT} (h : eqT a b = true) : eqD (.dT a) (.dT b) = some true := congrArg some h
theorem neC_s {x : Str} : neC (.str x) (.str x) = some false := by
 show some (!decide (x = x)) = _
 rw [decide_eq_true rfl]; rfl
noncomputable def fAsgT (is : List Nat) (f : FnD) (σ : LS) : Option (Fl × LS) := (f σ).bind fun p => (gTup is p.1 p.2).map fun σ' => (.next, σ')
theorem SOK_asgT {es : List Expr} {kk : Nat} {tp pos : Pos} {e : Expr} {is : List Nat} {f : FnD} (hn : NamesAt true sc vars es is) (h : EOK C k sc vars e f)
   (hs : ∀ env, EnvG sc env → swapsWithSole [.Tuple es kk tp] e pos.line env = pure false ∧ swappedStores [.Tuple es kk tp] e env = pure none) :
   SOK C k sc vars (.Assign [.Tuple es kk tp] e pos) (fAsgT is f) := by
 constructor
 intro env A P W F vm own s σ σ' d Q G fu Rm S R hf hQ
 unfold fAsgT at hf
 refine bs2 hf fun a σ1 e1 hf => ?_
 refine ms1 hf fun σ2 e2 hf => ?_
 nomatch hf, hQ
 refine wpAny_Assign_stores (h.go env A P W F vm own s σ σ1 a _ G Rm S R e1 fun v P1 W1 F1 own1 s1 S1 T1 R1 r1 => ?_) (hs env G).1 (hs env G).2
 show wpAny C.M A (assign (.Tuple es kk tp) env v) _ _ _
 exact (GOK_tup hn).go env A P1 W1 F1 vm own1 s1 σ1 _ a v _ G (fun _ => fu) Rm S1 R1 r1 e2 fun W2 vm2 own2 s2 S2 T2 R2 => hQ .next P1 W2 F1 vm2 own2 s2 S2 (T1.trans T2) R2 rfl
end
section
open PySem.Builtin PySem.Builtin.Re
open PySem PySem.Builtin PySem.Builtin.Re
noncomputable def codeN : Array Nat := #[14, 10, 4, 1, 1, 22, 0, 31, 16, 127, 0, 13, 7, 22, 0, 31, 16, 127, 0, 1]
noncomputable def codeV : Array Nat := #[14, 14, 4, 1, 1, 9, 4294966783, 0, 0, 2147483648, 0, 0, 0, 0, 0, 13, 11, 9, 4294966783, 0, 0, 2147483648, 0, 0, 0, 0, 0, 1]
noncomputable def okText (x : Str) : Bool := x.cps.all fun c => 32 ≤ c && c < 127
noncomputable def NoHit (code : Array Nat) (c : Nat) : Prop := ∀ seen : Sre.Seen, ∃ seen', Sre.inSet code c code.size 5 true seen = .ok (false, seen')
theorem setN {c : Nat} (h1 : 32 ≤ c) (h2 : c < 127) : NoHit codeN c := fun seen => by
 have e : Sre.inSet codeN c codeN.size 5 true seen = (if (decide (0 ≤ c) && decide (c ≤ 31)) = true then .ok (true, seen.add 22) else (if (c == 127) = true then .ok (true, (seen.add 22).add 16) else .ok (false, ((seen.add 22).add 16).add 0))) := rfl
 rw [e, if_neg (by simp; omega), if_neg (by simp; omega)]
 exact ⟨_, rfl⟩
theorem setV {c : Nat} (h1 : 32 ≤ c) (h2 : c < 127) : NoHit codeV c := fun seen => by
 have e : Sre.inSet codeV c codeV.size 5 true seen = (if (decide (c < 256) && (codeV.getD (5 + (1 + c / 32)) 0).testBit (c % 32)) = true then .ok (true, seen.add 9) else .ok (false, (seen.add 9).add 0)) := rfl
 have k : ∀ c : Fin 127, 32 ≤ c.val → (codeV.getD (5 + (1 + c.val / 32)) 0).testBit (c.val % 32) = false := by decide +kernel
 rw [e, k ⟨c, h2⟩ h1, Bool.and_false]
 exact ⟨_, rfl⟩
theorem admitted_none {code : Array Nat} (m : Sre.M) (hc : m.code = code) (h : ∀ i, i < m.lim → NoHit code (m.text.getD i 0)) : ∀ (fuel s : Nat) (seen : Sre.Seen), m.lim ≤ s + fuel → ∃ seen', Sre.M.admitted m fuel s seen = .ok (none, seen')  := by
 intro fuel
 induction fuel with
 | zero => exact fun s seen _ => ⟨_, rfl⟩
 | succ fuel ih =>
   intro s seen hl
   show ∃ seen', (if s ≥ m.lim then _ else _) = _
   by_cases hs : s ≥ m.lim
   · rw [if_pos hs]; exact ⟨_, rfl⟩
   · rw [if_neg hs, hc]
     refine Xe (h s (by omega) seen) fun seen' e => ?_
     rw [e]
     exact ih (s + 1) seen' (by lia)
theorem from_none {code : Array Nat} (m : Sre.M) (hc : m.code = code) (hf : m.hasFirstSet = true) (h : ∀ i, i < m.lim → NoHit code (m.text.getD i 0)) :
   ∃ seen', Sre.M.attemptFrom m 0 true = ({ m with seen := seen' } : Sre.M).say false := by
 unfold Sre.M.attemptFrom
 rw [hf]
 refine Xe (admitted_none m hc h (m.lim + 1 - 0) 0 m.seen (by lia)) fun seen' e => ?_
 rw [if_neg (by simp), e]
 exact ⟨seen', rfl⟩
theorem search_none {code : Array Nat} {text : Array Nat} (hcode : code = codeN ∨ code = codeV) (h : ∀ i, i < text.size → NoHit code (text.getD i 0)) :
   (Sre.forSearch code text 0 0 text.size false).answer = some false ∧ (Sre.forSearch code text 0 0 text.size false).frames = [] ∧ (Sre.forSearch code text 0 0 text.size false).outcome = none := by
 have e1 : (Sre.header code).1 = 1 := by rcases hcode with rfl | rfl <;> rfl
 haveI key : ∀ m : Sre.M, m.code = code → m.lim = text.size → m.text = text → m.frames = [] → m.outcome = none → ((Sre.M.attemptFrom m 0 true).answer = some false ∧ (Sre.M.attemptFrom m 0 true).frames = [] ∧ (Sre.M.attemptFrom m 0 true).outcome = none) := fun m h1 h2 h3 h4 h5 => by
   refine Xe (from_none m h1 (by unfold Sre.M.hasFirstSet; rw [h1]; rcases hcode with rfl | rfl <;> rfl) (fun i hi => by rw [h3]; exact h i (by omega))) fun seen' e => ?_
   rw [e]
   exact ⟨rfl, h4, h5⟩
 unfold Sre.forSearch
 dsimp only
 split
 · exact ⟨rfl, rfl, rfl⟩
 · exact key _ rfl rfl rfl rfl rfl
section
theorem re_attrs : PlainAttrs "re.Pattern" :=
 ⟨⟨"object.__getattribute__", by rw [typeLookup_type, builtinLookup_eq_fast]; kernel_rfl, by decide +kernel⟩, by rw [typeLookup_type, builtinLookup_eq_fast]; kernel_rfl⟩
theorem re_slot : PySem.Slot "re.Pattern" "search" "re.Pattern.search" :=
 .of (owner := "re.Pattern") (n := "search") (by rw [typeLookup_type, builtinLookup_eq_fast]; kernel_rfl) (by decide +kernel) (by decide +kernel) (by decide +kernel)
   (by first | exact .inl (by decide +kernel) | exact .inr (by decide +kernel)) (by rw [isSubtype_type]; kernel_rfl)
theorem re_type : typeOf (.builtin "re.Pattern.search") = pure (.type "method_descriptor") := by show builtinType _ = _; rw [builtinType_eq_fast]; kernel_rfl
theorem re_entry : entryFor table "re.Pattern.search" = some Builtin.«re.Pattern.search» := entryFor_of_tree kr
theorem re_args (a b : Value) : argsOk "re.Pattern.search" ⟨[a, b], []⟩ := by unfold argsOk; kernel_rfl
end
end
section
open PySem.Builtin PySem.Builtin.Re
structure PatAt (K : Frag) (pa : Addr) (code : Array Nat) : Prop where
 at' : ∃ (ct : Addr) (fs cs : Array Value) (n : Nat), K.lookup pa = some ⟨.type "re.Pattern", none, .fields fs, #[]⟩ ∧ reRawNat (fs.getD 6 .none) = 0 ∧ reRawNat (fs.getD 2 .none) = 0 ∧ fs.getD 5 .none = .ref ct ∧ K.lookup ct = some ⟨.type "tuple", none, .seq cs n, #[]⟩ ∧ (cs.map reRawOf).map (·.toNat) = code
section
variable {prog : Program} {w : World} {A : Around} {E : Value → Shared → Prop} {s : Shared}
theorem named_one (id f : String) (v : Value) : reNamed id f ["string", "pos", "endpos"] 1 [v] [] = pure [some v, none, none] := by
 unfold reNamed
 simp
theorem drive_end (m : Sre.M) (h1 : m.answer = some false) (h2 : m.frames = []) (h3 : m.outcome = none) : ∃ m' : Sre.M, m'.outcome = some .failed ∧ reDrive (2 ^ 64) m = pure m' := by
 haveI e : m.runFor reTurnSteps = { m with outcome := some .failed } := by
   show (if m.outcome.isSome = true then m else Sre.M.runFor 3 m.step) = _
   rw [h3, if_neg dc]
   have : m.step = { m with outcome := some .failed } := by
     unfold Sre.M.step
     rw [h3, if_neg dc, h1, h2]
     rfl
   rw [this]
   rfl
 refine Iea ({ m with outcome := some .failed }) rfl ?_
 · show reDrive (18446744073709551615 + 1) m = _
   show (if (m.runFor reTurnSteps).outcome.isSome = true then pure (m.runFor reTurnSteps) else (rule "sre.turn" >>= fun _ => reDrive 18446744073709551615 (m.runFor reTurnSteps))) = _
   rw [e]
   rfl
theorem run_end {m : Sre.M} {Q : Option Sre.M → Shared → Prop} (h1 : m.answer = some false) (h2 : m.frames = []) (h3 : m.outcome = none) (h : Q none s) : wpAny (model prog w) A (reRunToEnd m) Q E s := by
 refine Xea (drive_end m h1 h2 h3) fun m' e1 e2 => ?_
 unfold reRunToEnd
 refine wpAny_bind (wpAny_of_eq e2 (wpAny_bind ?_))
 refine wpAny_forIn_list _ (fun _ _ s' => s' = s) _ (fun i rest q s' hs => ?_) (fun q s' hs => ?_) _ _ rfl
 · subst hs
   split
   · exact wpAny_bind (wpAny_rule (wpAny_pure rfl))
   · exact wpAny_pure rfl
 · subst hs
   rw [e1]
   exact wpAny_pure h
theorem re_search {pa : Addr} {code : Array Nat} {K : Frag} {x : Str} {t : Tok} {Q : Value → Shared → Prop} (X : PatAt K pa code) (hk : K.In s.heap) (hc : code = codeN ∨ code = codeV) (hx : okText x = true) (hl : x.length ≤ bigN) (h : Q .none s) :
   wpAny (model prog w) A (call (.builtin "re.Pattern.search") [.ref pa, .str x t]) Q E s := by
 refine Xeeeeaaaaa X.at' fun ct fs cs n p1 p2 p2' p3 p4 p5 => ?_
 refine wpAny_call_entry re_slot ⟨_, hk _ _ p1, rfl⟩ re_entry ?_ (re_args _ _)
 unfold Builtin.«re.Pattern.search»
 refine wpAny_bind ?_
 unfold reTarget
 dsimp only
 refine wpAny_bind (wpAny_of_eq (named_one _ _ _) ?_)
 dsimp only
 refine wpAny_bind (wpAny_pure (wpAny_bind (wpAny_pure ?_)))
 refine wpAny_bind (wpAny_fieldsOf (hk _ _ p1) rfl ?_)
 refine wpAny_bind ?_
 unfold reTextOf
 refine wpAny_bind (wpAny_pure ?_)
 refine wpAny_pure ?_
 dsimp only
 rw [p2, p2', p3]
 rw [if_neg dc, if_neg dc]
 refine wpAny_bind (wpAny_of_eq (rfl : reNoCollectionInside (.str x t) 0 = pure ()) (wpAny_bind ?_))
 unfold reRawItems
 refine wpAny_bind (wpAny_seqItems (hk _ _ p4) rfl (wpAny_pure (wpAny_pure ?_)))
 dsimp only [Option.getD_some]
 rw [p5]
 haveI hlim : Min.min ((2 : Int) ^ 63 - 1).toNat x.cps.size = x.cps.size := by
   haveI : x.cps.size ≤ 100000 := hl
   exact Nat.min_eq_right (Nat.le_trans this dc)
 rw [hlim]
 haveI hno : ∀ i, i < x.cps.size → NoHit code (x.cps.getD i 0) := fun i hi => by
   haveI h1 : 32 ≤ x.cps.getD i 0 ∧ x.cps.getD i 0 < 127 := by
     haveI := Array.all_eq_true.mp hx i hi
     rw [Array.getD_eq_getD_getElem?, Array.getElem?_eq_getElem hi]
     simpa using this
   rcases hc with rfl | rfl
   · exact setN h1.1 h1.2
   · exact setV h1.1 h1.2
 refine Xaa (search_none hc hno) fun q1 q2 q3 => ?_
 unfold reAnswer
 exact wpAny_bind (run_end q1 q2 q3 (wpAny_pure ⟨_, rfl, h⟩))
end
end
section
theorem EOK_btyp {x : Str} {pos : Pos} {T : String} (ok : C.OK) (hx : sc.names.lookup x = some .globalImplicit) (en : nsIn C.K mainGlobals x = some none) (hb : bootBuiltins x = some (.type T)) (hn : x ≠ "__name__") (hd : (x == ("__debug__" : Str)) = false) :
   EOK C k sc vars (.Name x pos) (kq (.typ T)) := by
 constructor
 intro env A P W F vm own s σ σ' d Q G Rm S R hf hQ
 nomatch hf, hQ
 exact Name_function_global G.kind ((G.kindOf x).trans hx) (loadGlobal_builtin (by rw [G.g]; exact ok.T.g.keeps S.keepH) (mg_none_of ok.X ok.T.g en) (by rw [G.b]; exact ok.T.b.keeps S.keepH) ((ok.T.builtins x hn).trans hb) (hQ _ P W F own s S (.refl ..) R rfl)) hd
noncomputable def idx0 (x : Str) : List Str → Option Nat
 | [] => none
 | y :: r => if y = x then some 0 else (idx0 x r).map (· + 1)
noncomputable def gIndex (d0 : D) : List D → Option D := on1 fun d1 => (lstD d0).bind fun xs => (strD d1).bind fun x => (strsOf xs).bind fun ys => if ys.length ≤ bigN then (idx0 x ys).map fun (i : Nat) => .int i else none
theorem idx0_spec {x : Str} {ys : List Str} : ∀ {j : Nat}, idx0 x ys = some j → ys[j]? = some x ∧ ∀ i y, i < j → ys[i]? = some y → y ≠ x := by
 induction ys with
 | nil => intro j h; exact nosome h
 | cons y r ih =>
   intro j h
   by_cases e : y = x
   · obtain rfl := sinj ((if_pos e).symm.trans h)
     exact ⟨congrArg some e, fun i _ hi => absurd hi (Nat.not_lt_zero i)⟩
   · refine ms1 ((if_neg e).symm.trans h) fun i h1 q => ?_
     subst q
     refine Xa (ih h1) fun h2 h3 => ⟨h2, fun a b ha hb => ?_⟩
     cases a with
     | zero => obtain rfl := sinj (show some y = some b from hb); exact e
     | succ a => exact h3 a b (Nat.lt_of_succ_lt_succ ha) hb
noncomputable def eqW (x : Str) : Value → Bool
 | .str y _ => y == x
 | _ => false
theorem strsAre_get {vs : List Value} {ys : List Str} (H : StrsAre vs ys) : ∀ {i : Nat} {y : Str}, ys[i]? = some y → ∃ t, vs[i]? = some (.str y t) := by
 induction H with
 | nil => intro i y e; exact nosome (List.getElem?_nil.symm.trans e)
 | cons x t r ih =>
   intro i y e
   cases i with
   | zero => obtain rfl := sinj (show some x = some y from e); exact ⟨t, rfl⟩
   | succ i => exact ih e
theorem strsAre_mem {vs : List Value} {ys : List Str} (H : StrsAre vs ys) : ∀ v ∈ vs, ∃ y t, v = .str y t := by
 induction H with
 | nil => intro v h; cases h
 | cons x t r ih =>
   intro v h
   rcases List.mem_cons.mp h with rfl | h
   · exact Iee x t rfl
   · exact ih v h
theorem strsAre_len {vs : List Value} {ys : List Str} (H : StrsAre vs ys) : vs.length = ys.length := by
 induction H with
 | nil => rfl
 | cons x t r ih => exact congrArg (· + 1) ih
theorem index_ok {d0 : D} {ds : List D} {d : D} (e : gIndex d0 ds = some d) : FnOK C k (.builtin "list.index") (d0 :: ds) d := by
 intro A P W L m s vs Q Rm S n r h
 refine Xea (on1_inv e) fun d1 e q => ?_; subst q
 refine bs1 e fun xs e0 e => ?_
 obtain rfl := lstD_eq e0
 refine bs1 e fun x e0 e => ?_
 obtain rfl := strD_eq e0
 refine bs1 e fun ys e1 e2 => ?_
 refine Xa (ifG e2) fun hb e2 => ?_
 refine ms1 e2 fun j e3 q => ?_
 subst q
 refine Xeeaaeeaa r fun v _ q2 w3 v2 _ q6 w4 r2 => ?_; subst q2; subst q6; refine Xeeeaaa w3 fun l o us q3 p q r1 => ?_; subst q3; refine Xe w4 fun t q1 => ?_; subst q1
 rw [show _ = [] from r2]
 have hs := reps_strs e1 r1
 refine Xa (idx0_spec e3) fun j1 j2 => ?_
 refine Xe (strsAre_get hs j1) fun tj h1 => ?_
 have hl := strsAre_len hs
 have hjl : j < us.length := (List.getElem?_eq_some_iff.mp h1).1
 have hjy : j < ys.length := by omega
 refine Xe q fun no q1 => ?_; subst q1
 refine call_meets PySem.F.slot_list_index ⟨_, S.p _ _ p, rfl⟩ PySem.F.entry_list_index (PySem.F.args_list_index_2 _ _) (SeqAt.list_indexAt l us.toArray no none #[] (.str x t) (eqW x) j (by simpa using hjl) (by unfold bigN at hb; omega) ?_ ?_) ⟨S.p _ _ p, ?_, ?_⟩
 · have : us.toArray[j]'(by simpa using hjl) = .str x tj := by
     have := (List.getElem?_eq_some_iff.mp h1).2
     simpa using this
   rw [this]; simp [eqW]
 · intro i hi hij
   have hi' : i < us.length := by simpa using hi
   obtain ⟨y, hy⟩ : ∃ y, ys[i]? = some y := ⟨ys[i]'(by omega), List.getElem?_eq_getElem (by omega)⟩
   refine Xe (strsAre_get hs hy) fun ti h2 => ?_
   have : us.toArray[i]'hi = .str y ti := by
     have := (List.getElem?_eq_some_iff.mp h2).2
     simpa using this
   rw [this]
   have := j2 i y hij hy
   simpa [eqW] using this
 · intro y hy
   refine Xee (strsAre_mem hs y (by simpa using hy)) fun z tz q2 => ?_; subst q2
   exact SeqAt.EqAt.str_str z tz x t
 · exact h.same (S.toks _) ⟨s.toks, rfl⟩
noncomputable def rawA : D → Option Addr
 | .raw v => match v with
   | .ref a => some a
   | _ => none
 | _ => none
theorem rawA_eq {d : D} {a : Addr} (h : rawA d = some a) : d = .raw (.ref a) := by
 cases d with
 | raw v => cases v with
   | ref b => obtain rfl := sinj h; rfl
   | _ => exact nosome h
 | _ => exact nosome h
noncomputable def fSearch (pats : List Addr) (fo fv : FnD) (σ : LS) : Option (D × LS) :=
 (fo σ).bind fun p => (rawA p.1).bind fun a => if a ∈ pats then (fv p.2).bind fun q => (strD q.1).bind fun x => if okText x = true ∧ x.length ≤ bigN then some (.none, q.2) else none else none
theorem EOK_search {o e : Expr} {apos pos : Pos} {pats : List Addr} {fo fv : FnD} (ok : C.OK) (hp : ∀ a ∈ pats, ∃ code, (code = codeN ∨ code = codeV) ∧ PatAt C.K a code) (ho : EOK C k sc vars o fo) (hv : EOK C k sc vars e fv) (hpl : Plain [e])
   (hbase : ∀ env, attributeBase o "search" env (eval o env) = eval o env) (hline : (apos.endLine == pos.line) = true) : EOK C k sc vars (.Call (.Attribute o "search" apos) [e] [] pos) (fSearch pats fo fv) := by
 constructor
 intro env A P W F vm own s σ σ' d Q G Rm S R hf hQ
 refine bs2 hf fun d0 σ1 e1 hf => ?_
 refine bs1 hf fun a ea hf => ?_
 obtain rfl := rawA_eq ea
 refine Xa (ifG hf) fun ha hf => ?_
 refine bs2 hf fun d1 σ2 e2 hf => ?_
 refine bs1 hf fun x ex hf => ?_
 obtain rfl := strD_eq ex
 refine Xa (ifG hf) fun hx hf => ?_
 nomatch hf, hQ
 refine Xea (hp a ha) fun code hc X => ?_
 refine wpAny_Call_method (hbase env) (hpl.few pos) hline re_attrs re_slot re_type (ho.go env A P W F vm own s σ σ1 _ _ G Rm S R e1 fun v P1 W1 F1 own1 s1 S1 T1 R1 r1 => ?_)
 obtain rfl : v = .ref a := r1
 refine Xeeeea (id X.at') fun ct fs cs n p1 p2 => ?_
 haveI hk1 := ok.X.keeps S1.keepH
 refine ⟨⟨_, hk1 _ _ p1, rfl⟩, fun b e => by cases e; exact ⟨_, hk1 _ _ p1, rfl⟩, ?_⟩
 refine callWith_method1 (first := [.ref a]) ?_ (hpl.c env e [] rfl) rfl
 rw [hpl.c env e [] rfl]
 refine Calls.spliced_cons (hv.go env A P1 W1 F1 vm own1 s1 σ1 _ _ _ G Rm S1 R1 e2 fun v P2 W2 F2 own2 s2 S2 T2 R2 r2 => Calls.spliced_nil ?_)
 refine Xe r2 fun t q1 => ?_; subst q1
 exact re_search X (ok.X.keeps S2.keepH) hc hx.1 hx.2 (hQ _ P2 W2 F2 own2 s2 S2 (T1.trans T2) R2 rfl)
end
section
structure HF (C : Cx) : Prop where
 ga : findIn C.K (.ref C.hc) "__getattribute__" = some (some (.builtin "object.__getattribute__"))
 gt : findIn C.K (.ref C.hc) "__getattr__" = some none
 cd : ∃ cd, clsIn C.K C.hc = some cd ∧ cd.hasDict = true
 no : findIn C.K (.ref C.hc) "_headers" = some none
structure HM (C : Cx) (name : Str) (f : Addr) : Prop where
 fn : findIn C.K (.ref C.hc) name = some (some (.ref f))
 t : typeIn C.K (.ref f) = some (.type "function")
 k : keepIn C.K (.ref f) = true
 n : name ≠ "_headers"
theorem hdr_inst {a l : Addr} {h : Heap} (hp : ∀ a o, P a = some o → h.get? a = some o) : HdrAt C.hc P a l → ∃ ox en, InstAt h a ox C.hc (some (dictOf [en] 1)) ∧ en.key.isStr "_headers" = true ∧ en.val = .ref l := fun ⟨dx, sl, en, h1, h2, h3, h4⟩ =>
 ⟨_, en, ⟨hp _ _ h1, rfl, rfl, hp _ _ h2⟩, h3, h4⟩
theorem isStr_other {v : Value} {x y : Str} (h : v.isStr x = true) (hn : y ≠ x) : v.isStr y = false := by
 cases v <;> first | exact ns h | (cases h; done) | skip
 rename_i z t
 haveI hz : z = x := by
   haveI : Value.isStrOf x (.str z t) = true := by rw [← isStr_of]; exact h
   refine Xe (Value.isStrOf_shape this) fun u e => ?_
   injection e
 subst hz
 rw [isStr_of]
 cases q : Value.isStrOf y (.str z t) with
 | false => rfl
 | true =>
   refine Xe (Value.isStrOf_shape q) fun u e => ?_
   injection e with e
   exact absurd e.symm hn
theorem hdr_method {a l f : Addr} {name : Str} {pl : Sem Bool} {E : Value → Shared → Prop} {Q : Value × List Value → Shared → Prop} (ok : C.OK) (H : HF C) (M : HM C name f) (S : St C P W s) (x : HdrAt C.hc P a l) (h : Q (.ref f, [.ref a]) s) : wpAny C.M A (getMethod (.ref a) name pl) Q E s := by
 refine Xeeaa (hdr_inst S.p x) fun ox en I e1 e2 => ?_
 refine method_fn (ok.X.keeps S.keepH) I H.ga H.gt M.fn M.t ?_ h
 show (lookIn name (dictOf [en] 1)).map _ = _
 rw [lookIn_dict]
 unfold getL
 rw [List.find?_cons, isStr_other e1 M.n]
 have : [en].any (·.refKey) = false := by
   rw [List.any_cons]
   unfold DictEntry.refKey
   have : ∃ x t, en.key = .str x t := by
     cases q : en.key <;> rw [q] at e1 <;> first | (cases e1; done) | exact Iee _ _ rfl
   refine Xee this fun x t e => ?_
   rw [e]; rfl
 simp [this]
theorem hdr_attr {a l : Addr} {expr : Bool} {E : Value → Shared → Prop} {Q : Value → Shared → Prop} (ok : C.OK) (H : HF C) (S : St C P W s) (x : HdrAt C.hc P a l) (h : Q (.ref l) { s with toks := s.toks + 1 }) : wpAny C.M A (getAttr (.ref a) "_headers" expr) Q E s := by
 refine Xeeaa (hdr_inst S.p x) fun ox en I e1 e2 => ?_
 refine Xea H.cd fun cd c1 c2 => ?_
 refine get_value (ok.X.keeps S.keepH) I H.ga ?_ rfl h
 unfold findObj
 rw [c1, Option.bind_some, H.no, Option.bind_some]
 dsimp only [Option.bind_some]
 unfold PySem.W.ownOf
 rw [c2]
 simp only [if_true, Option.bind_some]
 rw [lookIn_dict]
 unfold getL
 rw [List.find?_cons, e1]
 dsimp only
 rw [e2]
 rfl
noncomputable def fHattr (f : FnD) (σ : LS) : Option (D × LS) := (f σ).bind fun p => match p.1 with
 | .hdr xs => some (.list xs, p.2)
 | _ => none
theorem EOK_hattr {o : Expr} {pos : Pos} {f : FnD} (ok : C.OK) (H : HF C) (h : EOK C k sc vars o f)
   (he : ∀ env, eval (.Attribute o "_headers" pos) env = (do
     let v ← eval o env
     standAt pos.atName
     let r ← holding [v] (getAttr v "_headers" true)
     letTemporaryGo o v r
     pure r)) : EOK C k sc vars (.Attribute o "_headers" pos) (fHattr f) := by
 constructor
 intro env A P W F vm own s σ σ' d Q G Rm S R hf hQ
 unfold fHattr at hf
 refine bs2 hf fun d0 σ1 e1 hf => ?_
 cases d0 <;> first | exact ns hf | (cases hf; done) | skip
 rename_i xs
 nomatch hf, hQ
 refine Attribute_any_ (h.go env A P W F vm own s σ _ _ _ G Rm S R e1 fun v P1 W1 F1 own1 s1 S1 T1 R1 r1 => ?_) (he env)
 refine Xeeeeaaaa r1 fun a l o vs q4 x p q r => ?_; subst q4
 exact hdr_attr ok H S1 x (hQ _ P1 W1 F1 own1 _ (S1.toks _) T1 R1 ⟨l, o, vs, rfl, p, q, r⟩)
noncomputable def fHmeth (g : List D → List D → Option D) (f : FnD) (h : FnL) (σ : LS) : Option (D × LS) :=
 (f σ).bind fun p => match p.1 with
   | .hdr xs => (h p.2).bind fun q => (g xs q.1).map fun d => (d, q.2)
   | _ => none
theorem EOK_hmeth {o e : Expr} {name : Str} {apos pos : Pos} {es : List Expr} {fa : Addr} {g : List D → List D → Option D} {f : FnD} {h : FnL} (ok : C.OK) (H : HF C) (M : HM C name fa)
   (hg : ∀ xs ds d, g xs ds = some d → FnOK C k (.ref fa) (.hdr xs :: ds) d) (ho : EOK C k sc vars o f) (ha : LOK C k sc vars (e :: es) h) (hp : Plain (e :: es)) (hp' : Plain es)
   (he : ∀ env, ∃ pl, eval (.Call (.Attribute o name apos) (e :: es) [] pos) env = (do
     let ov ← eval o env
     standAt apos.atName
     let (f, first) ← holding [ov] (getMethod ov name pl)
     callWith pos f first (backTo pos (starEach (e :: es) env)) (backToKw pos (keywordEach [] env)))) : EOK C k sc vars (.Call (.Attribute o name apos) (e :: es) [] pos) (fHmeth g f h) := by
 constructor
 intro env A P W F vm own s σ σ' d Q G Rm S R hf hQ
 unfold fHmeth at hf
 refine bs2 hf fun d0 σ1 e1 hf => ?_
 cases d0 <;> first | exact ns hf | (cases hf; done) | skip
 rename_i xs
 refine bs2 hf fun ds σ2 e2 hf => ?_
 refine ms1 hf fun dd e3 hf => ?_
 nomatch hf, hQ
 refine Xe (he env) fun pl he => ?_
 refine methodCall_KW (pl := pl) (ho.go env A P W F vm own s σ σ1 _ _ G Rm S R e1 fun v P1 W1 F1 own1 s1 S1 T1 R1 r1 => ?_) he
 refine Xeeeeaaaa (id r1) fun a l ob us q4 x p q r => ?_; subst q4
 refine hdr_method ok H M S1 x ?_
 refine callWith_K (K := C.K) (h₀ := C.H) (first := [.ref a]) ok.X M.k (ha.go env pos A P1 W1 F1 vm own1 s1 σ1 _ ds _ G Rm S1 R1 e2 fun vs P2 W2 F2 own2 s2 S2 T2 R2 r2 => ⟨ok.X.keeps S2.keepH, ?_⟩) (hp.c env e es rfl) (hp'.any env pos)
 refine Xe R2.vs.nsM fun m n => ?_
 exact hg xs ds _ e3 A P2 W2 env.locals m s2 (.ref a :: vs) Q Rm S2 n ⟨_, vs, rfl, Rep.mono T2.p (.hdr xs) r1, r2⟩ (Res.of R2.vs.locF R2 fun v P' W' F' own' s' S' T' R' r' => hQ v P' W' F' own' s' S' (T1.trans (T2.trans T')) R' r')
noncomputable def ownHAt (i : Nat) (σ : LS) : Option (Bool × List D) := match σ.getD i .non with
 | .ownH io xs => some (io, xs)
 | _ => none
theorem ownHAt_eq {i : Nat} {io : Bool} {xs : List D} (h : ownHAt i σ = some (io, xs)) : σ.getD i .non = .ownH io xs := by
 unfold ownHAt at h
 cases e : σ.getD i .non with
 | ownH a x => rw [e] at h; have := sinj h; rw [pj1 this, pj2 this]
 | _ => rw [e] at h; exact nosome h
noncomputable def fHio (i : Nat) (g : List D → List D → Option (D × List D)) (h : FnL) (σ : LS) : Option (D × LS) :=
 (ownHAt i σ).bind fun _ => (h σ).bind fun q => (ownHAt i q.2).bind fun l => (g l.2 q.1).map fun r => (r.1, q.2.set i (.ownH l.1 r.2))
theorem hio_core {x : Str} {i fa : Nat} {io : Bool} {xs xs' : List D} {ds : List D} {dd : D} {vs : List Value} {v : Value} {σ2 : LS} {P2 W2 : Mp} {F2 : Addr → Prop} {own2 : Nat → Addr} {s2 : Shared} {Q : Value → Shared → Prop} (hi : vars[i]? = some x)
   (hg : FnIO C k (.ref fa) true ds (.ownH true xs) (.ownH true xs') dd) (Rm : Room k A) (S2 : St C P2 W2 s2) (R2 : RelEnv C vars env σ2 P2 W2 F2 vm own2) (e : σ2.getD i .non = .ownH io xs) (hv : vm x = some v) (r2 : Reps C P2 ds vs)
   (h : ∀ u P' W' s', P2.Le P' → St C P' W' s' → Step P2 W2 F2 P' W' F2 → RelEnv C vars env (σ2.set i (.ownH io xs')) P' W' F2 vm own2 → Rep C P' dd u → Q u s') : wpAny C.M A (call (.ref fa) (v :: vs)) Q NoE s2 := by
 refine Xeeaaaaa (R2.ownAt hi e rfl) fun z oz z1 z2 z3 z4 z5 z6 => ?_
 obtain rfl : z = v := Option.some.inj (z1.symm.trans hv)
 refine hg A P2 W2 s2 vs z (own2 i) oz Q Rm S2 r2 z2 z3 z4 fun u P' s' o1 hP S' hob hr => ?_
 haveI R' := R2.monoP hP
 refine Xea z2 fun a q1 hx => ?_; subst q1
 refine h u P' _ s' hP S' ((Step.le hP).trans (step_set z5)) (R'.setOwn (sl := .ownH io xs') hi (by rw [e]; rfl) z1 ⟨a, rfl, hx.mono hP⟩ rfl z5 z6 ?_) hr
 refine Xea hob fun us q1 q2 => ?_
 exact Iea us q1 q2
theorem EOK_hio {x : Str} {px : Pos} {e : Expr} {name : Str} {apos pos : Pos} {es : List Expr} {i fa : Nat} {g : List D → List D → Option (D × List D)} {h : FnL} (ok : C.OK) (H : HF C) (M : HM C name fa) (hi : vars[i]? = some x) (hx : Rd sc x)
   (hg : ∀ xs ds d xs', g xs ds = some (d, xs') → FnIO C k (.ref fa) true ds (.ownH true xs) (.ownH true xs') d) (ha : LOK C k sc vars (e :: es) h) (hp : Plain (e :: es)) (hp' : Plain es)
   (he : ∀ env, ∃ pl, eval (.Call (.Attribute (.Name x px) name apos) (e :: es) [] pos) env = (do
     let ov ← eval (.Name x px) env
     standAt apos.atName
     let (f, first) ← holding [ov] (getMethod ov name pl)
     callWith pos f first (backTo pos (starEach (e :: es) env)) (backToKw pos (keywordEach [] env)))) : EOK C k sc vars (.Call (.Attribute (.Name x px) name apos) (e :: es) [] pos) (fHio i g h) := by
 constructor
 intro env A P W F vm own s σ σ' d Q G Rm S R hf hQ
 unfold fHio at hf
 refine bs2 hf fun io0 xs0 e0 hf => ?_
 refine bs2 hf fun ds σ2 e2 hf => ?_
 refine bs2 hf fun io xs e3 hf => ?_
 refine ms2 hf fun dd xs' e4 hf => ?_
 nomatch hf, hQ
 refine Xe (he env) fun pl he => ?_
 refine Xeeaaa (R.ownAt hi (ownHAt_eq e0) rfl) fun v o v1 w8 v3 _ => ?_; refine Xea w8 fun a q1 x1 => ?_; subst q1
 refine methodCall_KW (pl := pl) (read_name G R.vs S hx v1 (hdr_method ok H M S x1 ?_)) he
 refine callWith_K (K := C.K) (h₀ := C.H) (first := [.ref a]) ok.X M.k (ha.go env pos A P W F vm own s σ _ ds _ G Rm S R e2 fun vs P2 W2 F2 own2 s2 S2 T2 R2 r2 => ⟨ok.X.keeps S2.keepH, ?_⟩) (hp.c env e es rfl) (hp'.any env pos)
 exact hio_core hi (hg xs ds dd xs' e4) Rm S2 R2 (ownHAt_eq e3) v1 r2 fun u P' W' s' hP S' T' R' r' => hQ u P' W' F2 own2 s' S' (T2.trans T') R' r'
theorem EOK_hio0 {x : Str} {px : Pos} {name : Str} {apos pos : Pos} {i fa : Nat} {g : List D → List D → Option (D × List D)} (ok : C.OK) (H : HF C) (M : HM C name fa) (hi : vars[i]? = some x) (hx : Rd sc x)
   (hg : ∀ xs ds d xs', g xs ds = some (d, xs') → FnIO C k (.ref fa) true ds (.ownH true xs) (.ownH true xs') d)
   (he : ∀ env, ∃ pl, eval (.Call (.Attribute (.Name x px) name apos) [] [] pos) env = (do
     let ov ← eval (.Name x px) env
     standAt apos.atName
     let (f, first) ← holding [ov] (getMethod ov name pl)
     callWith pos f first (backTo pos (starEach [] env)) (backToKw pos (keywordEach [] env)))) : EOK C k sc vars (.Call (.Attribute (.Name x px) name apos) [] [] pos) (fHio i g fnl) := by
 constructor
 intro env A P W F vm own s σ σ' d Q G Rm S R hf hQ
 unfold fHio fnl at hf
 refine bs2 hf fun io0 xs0 e0 hf => ?_
 refine bs2 hf fun ds σ2 e2 hf => ?_
 cases e2
 refine bs2 hf fun io xs e3 hf => ?_
 refine ms2 hf fun dd xs' e4 hf => ?_
 nomatch hf, hQ
 refine Xe (he env) fun pl he => ?_
 refine Xeeaaa (R.ownAt hi (ownHAt_eq e0) rfl) fun v o v1 w13 v3 _ => ?_; refine Xea w13 fun a q1 x1 => ?_; subst q1
 refine methodCall_KW (pl := pl) (read_name G R.vs S hx v1 (hdr_method ok H M S x1 ?_)) he
 refine callWith_K0 (K := C.K) (first := [.ref a]) (ok.X.keeps S.keepH) M.k ?_
 exact hio_core (vs := []) hi (hg xs [] dd xs' e4) Rm S R (ownHAt_eq e3) v1 Reps.nil fun u P' W' s' hP S' T' R' r' => hQ u P' W' F own s' S' T' R' r'
noncomputable def flatD : D → Bool
 | .none | .bool _ | .int _ | .str _ => true
 | _ => false
theorem flat_rep {d : D} {v : Value} (h : flatD d = true) (r : Rep C P d v) : Rep C P' d v := by
 cases d <;> first | (cases h; done) | exact r
noncomputable def fHread (i : Nat) (g : List D → List D → Option D) (h : FnL) (σ : LS) : Option (D × LS) :=
 (ownHAt i σ).bind fun _ => (h σ).bind fun q => (ownHAt i q.2).bind fun l => (g l.2 q.1).bind fun d => if flatD d = true then some (d, q.2) else none
theorem EOK_hread {x : Str} {px : Pos} {e : Expr} {name : Str} {apos pos : Pos} {es : List Expr} {i fa : Nat} {g : List D → List D → Option D} {h : FnL} (ok : C.OK) (H : HF C) (M : HM C name fa) (hi : vars[i]? = some x) (hx : Rd sc x)
   (hg : ∀ xs ds d, g xs ds = some d → FnOK C k (.ref fa) (.hdr xs :: ds) d) (ha : LOK C k sc vars (e :: es) h) (hp : Plain (e :: es)) (hp' : Plain es)
   (he : ∀ env, ∃ pl, eval (.Call (.Attribute (.Name x px) name apos) (e :: es) [] pos) env = (do
     let ov ← eval (.Name x px) env
     standAt apos.atName
     let (f, first) ← holding [ov] (getMethod ov name pl)
     callWith pos f first (backTo pos (starEach (e :: es) env)) (backToKw pos (keywordEach [] env)))) : EOK C k sc vars (.Call (.Attribute (.Name x px) name apos) (e :: es) [] pos) (fHread i g h) := by
 constructor
 intro env A P W F vm own s σ σ' d Q G Rm S R hf hQ
 unfold fHread at hf
 refine bs2 hf fun io0 xs0 e0 hf => ?_
 refine bs2 hf fun ds σ2 e2 hf => ?_
 refine bs2 hf fun io xs e3 hf => ?_
 refine bs1 hf fun dd e4 hf => ?_
 split at hf
 case isFalse => exact ns hf
 rename_i hfl
 nomatch hf, hQ
 refine Xe (he env) fun pl he => ?_
 refine Xeeaaa (R.ownAt hi (ownHAt_eq e0) rfl) fun v o v1 w17 v3 _ => ?_; refine Xea w17 fun a q1 x1 => ?_; subst q1
 refine methodCall_KW (pl := pl) (read_name G R.vs S hx v1 (hdr_method ok H M S x1 ?_)) he
 refine callWith_K (K := C.K) (h₀ := C.H) (first := [.ref a]) ok.X M.k (ha.go env pos A P W F vm own s σ _ ds _ G Rm S R e2 fun vs P2 W2 F2 own2 s2 S2 T2 R2 r2 => ⟨ok.X.keeps S2.keepH, ?_⟩) (hp.c env e es rfl) (hp'.any env pos)
 haveI e3' := ownHAt_eq e3
 refine Xeeaaaaa (R2.ownAt hi e3' rfl) fun z oz z1 z2 z3 w18 z5 z6 => ?_; refine Xea w18 fun us z4 z4' => ?_
 obtain rfl : z = .ref a := Option.some.inj (z1.symm.trans v1)
 refine Xea z2 fun a' ea hx2 => ?_
 cases ea
 refine Xa (R2.apL i (by rw [e3']; rfl)) fun nL nC => ?_
 have p2b : P2 (own2 i) = none := (S2.w _ _ z3).2
 haveI hle : P2.Le (P2.upd (own2 i) oz) := Mp.Le.upd p2b
 refine Xe R2.vs.nsM fun m n => ?_
 haveI n' : NsM (W2.del (own2 i)) env.locals m := by
   refine Xeeea n fun oL es' ep l1 l2 => ?_
   exact Ieeea oL es' ep (by rw [Mp.del_ne _ (Ne.symm nL)]; exact l1) l2
 refine hg xs ds _ e4 A _ _ env.locals m s2 (.ref a :: vs) Q Rm (S2.freeze z3) n' ⟨_, vs, rfl, ⟨a, own2 i, oz, us, rfl, hx2.mono hle, Mp.upd_self .., z4, Reps.mono hle _ z4'⟩, Reps.mono hle _ r2⟩ fun u P3 W3 s3 hP3 S3 hS3 r3 => ?_
 haveI p3b : P3 (own2 i) = some oz := hP3 _ _ (Mp.upd_self ..)
 have leP : P2.Le (P3.del (own2 i)) := fun b ob e => by
   haveI hb : b ≠ own2 i := by rintro rfl; rw [p2b] at e; cases e
   rw [Mp.del_ne _ hb]; exact hP3 _ _ (hle _ _ e)
 haveI slk : Slk env.locals W2 (W3.upd (own2 i) oz) := by
   refine ⟨fun b hb => ?_, fun m' hm => ?_⟩
   · by_cases hbo : b = own2 i
     · subst hbo; rw [Mp.upd_self, z3]
     · rw [Mp.upd_ne _ _ hbo, hS3.off b hb, Mp.del_ne _ hbo]
   · refine Xeeea hm fun oL es' ep l1 l2 => ?_
     refine Xeeea (hS3.ns m' ⟨oL, es', ep, by rw [Mp.del_ne _ (Ne.symm nL)]; exact l1, l2⟩) fun oL' es2 ep2 q1 q2 => ?_
     exact Ieeea oL' es2 ep2 (by rw [Mp.upd_ne _ _ (Ne.symm nL)]; exact q1) q2
 haveI S4 : St C (P3.del (own2 i)) (W3.upd (own2 i) oz) s3 := by
   refine ⟨S3.gens, S3.drawn, S3.os, fun b ob e => leP _ _ (S2.base b ob e), fun b ob e => ?_, fun b ob e => ?_⟩
   · by_cases hb : b = own2 i
     · subst hb; rw [Mp.del_self] at e; cases e
     · rw [Mp.del_ne _ hb] at e; exact S3.p b ob e
   · by_cases hb : b = own2 i
     · subst hb; rw [Mp.upd_self] at e; cases e; exact ⟨S3.p _ _ p3b, Mp.del_self ..⟩
     · rw [Mp.upd_ne _ _ hb] at e; rw [Mp.del_ne _ hb]; exact S3.w b ob e
 exact hQ u _ _ F2 own2 s3 S4 (T2.trans (slk.step R2.vs.locF leP)) ((R2.monoP leP).slk slk) (flat_rep hfl r3)
end
section
theorem read_hattr {x : Str} {px hp : Pos} {i : Nat} {io : Bool} {xs : List D} {E : Value → Shared → Prop} {Q : Value → Shared → Prop} (ok : C.OK) (H : HF C) (G : EnvG sc env) (S : St C P W s) (R : RelEnv C vars env σ P W F vm own) (hi : vars[i]? = some x) (hx : Rd sc x) (e : σ.getD i .non = .ownH io xs)
   (he : ∀ env, eval (.Attribute (.Name x px) "_headers" hp) env = (do
     let v ← eval (.Name x px) env
     standAt hp.atName
     let r ← holding [v] (getAttr v "_headers" true)
     letTemporaryGo (.Name x px) v r
     pure r)) (h : ∀ tk, Q (.ref (own i)) { s with toks := tk }) : wpAny C.M A (eval (.Attribute (.Name x px) "_headers" hp) env) Q E s := by
 refine Xeeaaa (R.ownAt hi e rfl) fun v o v1 w1 v3 _ => ?_; refine Xea w1 fun a q1 x1 => ?_; subst q1
 exact Attribute_any_ (read_name G R.vs S hx v1 (hdr_attr ok H S x1 (h _))) (he env)
noncomputable def fHappend (i : Nat) (f : FnD) (σ : LS) : Option (Fl × LS) :=
 (ownHAt i σ).bind fun _ => (f σ).bind fun p => (ownHAt i p.2).bind fun l => if l.2.length ≤ bigN then some (.next, p.2.set i (.ownH l.1 (l.2 ++ [p.1]))) else none
theorem SOK_happend {x : Str} {px hp apos pos epos : Pos} {e : Expr} {i : Nat} {f : FnD} (ok : C.OK) (H : HF C) (hi : vars[i]? = some x) (hx : Rd sc x) (h : EOK C k sc vars e f) (hpl : Plain [e])
   (he : ∀ env, eval (.Attribute (.Name x px) "_headers" hp) env = (do
     let v ← eval (.Name x px) env
     standAt hp.atName
     let r ← holding [v] (getAttr v "_headers" true)
     letTemporaryGo (.Name x px) v r
     pure r))
   (hbase : ∀ env, attributeBase (.Attribute (.Name x px) "_headers" hp) "append" env (eval (.Attribute (.Name x px) "_headers" hp) env) = eval (.Attribute (.Name x px) "_headers" hp) env) (hline : (apos.endLine == pos.line) = true)
   (hs : ∀ env, swapsWith (.Call (.Attribute (.Attribute (.Name x px) "_headers" hp) "append" apos) [e] [] pos) none epos.line env = pure false) :
   SOK C k sc vars (.Expr (.Call (.Attribute (.Attribute (.Name x px) "_headers" hp) "append" apos) [e] [] pos) epos) (fHappend i f) := by
 constructor
 intro env A P W F vm own s σ σ' d Q G fu Rm S R hf hQ
 unfold fHappend at hf
 refine bs2 hf fun io0 xs0 e0 hf => ?_
 refine bs2 hf fun a σ1 e1 hf => ?_
 refine bs2 hf fun io xs e2 hf => ?_
 dsimp only at hf
 split at hf
 case isFalse => exact ns hf
 rename_i hl
 nomatch hf, hQ
 have e0' := ownHAt_eq e0
 have e2' := ownHAt_eq e2
 refine Xeeaaaa (R.ownAt hi e0' rfl) fun v o v1 w5 v3 w6 v6 => ?_; refine Xea w5 fun av q1 hx0 => ?_; subst q1; refine Xea w6 fun vs v4 v5 => ?_
 refine wpAny_Expr_any (wpAny_Call_append (hbase env) (hpl.few pos) hline (by rw [hpl.c env e [] rfl]; rfl) (read_hattr ok H G S R hi hx e0' he fun tk => ⟨own i, vs.toArray, rfl, ?_, ?_⟩)) (by unfold interactive; rw [G.kind]; rfl) (hs env)
 · refine Xe (v4.exact (S.w _ _ v3).1) fun n q => ?_
   exact ⟨_, n, q, rfl, rfl, rfl⟩
 refine h.go env A P W F vm own _ σ σ1 a _ G Rm (S.toks tk) R e1 fun u P1 W1 F1 own1 s1 S1 T1 R1 r1 => ?_
 refine Xeeaaaaa (R1.ownAt hi e2' rfl) fun z oz z1 w7 z3 w8 z5 z6 => ?_; refine Xea w7 fun az ez hx1 => ?_; refine Xea w8 fun us z4 z4' => ?_
 have eav : az = av := by
   have : Value.ref av = z := Option.some.inj (v1.symm.trans z1)
   rw [ez] at this
   injection this with this
   exact this.symm
 have hvv : own i = own1 i := by
   subst eav
   refine Xeeeaaa (hx0.mono T1.p) fun dx sl en h1 h2 h3 h4 => ?_
   refine Xeeeaaa hx1 fun dx' sl' en' g1 g2 g3 g4 => ?_
   rw [h1] at g1
   injection (g1) with g1
   injection (g1) with _ g1 _ _
   injection (g1) with g1
   subst g1
   rw [h2] at g2
   injection (g2) with g2
   have : en = en' := by
     unfold dictOf at g2
     injection (g2) with _ _ g2 _
     injection g2 with g2 _
     simpa using g2
   subst this
   rw [h4] at g4
   injection g4
 rw [hvv]
 refine Xe (z4.exact (S1.w _ _ z3).1) fun n q => ?_
 refine append_at q (fun h' hsb hg => ?_) (by rw [List.size_toArray, ← z4'.length, sizeLine_eq]; unfold bigN at hl; lia)
 have hobj : IsLst { cls := .type "list", dict := none, data := .seq (us.toArray.push u) (n + 1), slots := #[] } (us ++ [u]) := ⟨n + 1, by simp⟩
 exact hQ .next P1 _ F1 vm own1 _ (S1.setW (tk := s1.toks) z3 hsb hg) (T1.trans (step_set z5))
   (R1.setOwn (sl := .ownH io (xs ++ [a])) hi (by rw [e2']; rfl) z1 ⟨az, ez, hx1⟩ rfl z5 z6 ⟨_, hobj, z4'.append (Reps.one r1)⟩) rfl
noncomputable def fHcopy (i : Nat) (σ : LS) : Option (D × LS) := (ownHAt i σ).bind fun l => if l.2.length ≤ bigN then some (.list l.2, σ) else none
theorem EOK_hcopy {x : Str} {px hp p pos : Pos} {i : Nat} (ok : C.OK) (H : HF C) (hi : vars[i]? = some x) (hx : Rd sc x)
   (he : ∀ env, eval (.Attribute (.Name x px) "_headers" hp) env = (do
     let v ← eval (.Name x px) env
     standAt hp.atName
     let r ← holding [v] (getAttr v "_headers" true)
     letTemporaryGo (.Name x px) v r
     pure r)) : EOK C k sc vars (.Subscript (.Attribute (.Name x px) "_headers" hp) (.Slice none none none p) pos) (fHcopy i) := by
 constructor
 intro env A P W F vm own s σ σ' d Q G Rm S R hf hQ
 unfold fHcopy at hf
 refine bs2 hf fun io xs e0 hf => ?_
 dsimp only at hf
 split at hf
 case isFalse => exact ns hf
 rename_i hl
 nomatch hf, hQ
 have e0' := ownHAt_eq e0
 refine Xeeaaaa (R.ownAt hi e0' rfl) fun v o v1 hv v3 w10 v6 => ?_; refine Xea w10 fun vs v4 v5 => ?_
 refine Subscript_ (read_hattr ok H G S R hi hx e0' he fun tk => ?_)
 refine wpAny_Slice (wpAny_evalPart_none (wpAny_evalPart_none (wpAny_evalPart_none ?_)))
 have S0 := S.toks tk
 have S4 := S0.ext (h' := s.heap.push { cls := .type "slice", data := .fields #[.none, .none, .none] }) (tk := tk) fun a o e => Heap.get?_push_of_some _ e
 have hL := v4.list (S4.w _ _ v3).1
 refine Xea (v5.slice none none) fun us eu ru => ?_
 refine tail_any (ops := [.ref s.heap.objs.size, .ref (own i)]) hL.typeIs slot_list_getitem.lookup (wpAny_getItem_list_slice hL ⟨_, Heap.get?_push_size _ rfl, rfl, rfl⟩ .none .none .none (by intro q; cases q) ?_ (by rw [List.size_toArray, ← v5.length, sizeLine_eq]; unfold bigN at hl; omega)) rfl
 rw [eu]
 have hle : P.Le (P.upd _ _) := Mp.Le.upd (o := { cls := .type "list", data := .seq us.toArray }) S4.freshP
 have hsl : sliceL xs none none = xs := by simp [sliceL]
 rw [hsl] at ru
 exact hQ _ _ W F own _ (S4.newP (tk := tk) rfl) (.le hle) (R.monoP hle) ⟨_, _, us, rfl, Mp.upd_self .., ⟨0, rfl⟩, Reps.mono hle _ ru⟩
noncomputable def ConvOK (C : Cx) (k : Nat) (fa : Addr) : Prop :=
 ∀ (A : Around) (P W : Mp) (s : Shared) (v0 : Value) (x : Str) (t : Tok) (b : Bool) (Q : Value → Shared → Prop), Room k A → St C P W s → okText x = true → x.length ≤ bigN →
   (∀ v P' s', P.Le P' → St C P' W s' → Rep C P' (.str x) v → Q v s') → wpAny C.M A (call (.ref fa) [v0, .str x t] [("name", .bool b)]) Q NoE s
noncomputable def selfAt (i : Nat) (σ : LS) : Bool := match σ.getD i .non with
 | .val (.hdr _) => true
 | .val (.inst _) => true
 | .ownH _ _ => true
 | _ => false
theorem self_of {i : Nat} {x : Str} (R : RelEnv C vars env σ P W F vm own) (hi : vars[i]? = some x) (h : selfAt i σ = true) : ∃ a l, vm x = some (.ref a) ∧ HdrAt C.hc P a l := by
 haveI := R.sl i x hi
 unfold selfAt at h
 cases e : σ.getD i .non with
 | val d =>
   rw [e] at h this
   cases d with
   | hdr xs =>
     refine Xeaeeeeaa this fun v h1 a l o vs q6 hx _ => ?_; subst q6
     exact Ieea a l h1 hx
   | inst a =>
     refine Xeaae this fun v h1 q2 l hx => ?_; subst q2
     exact Ieea a l h1 hx
   | _ => exact noft h
 | ownH io xs =>
   refine Xeeaa (R.ownAt hi e rfl) fun v o h1 w11 _ => ?_; refine Xea w11 fun a q1 hx => ?_; subst q1
   exact Ieea a (own i) h1 hx
 | _ => rw [e] at h; exact noft h
noncomputable def fConv (i : Nat) (f : FnD) (σ : LS) : Option (D × LS) :=
 if selfAt i σ = true then (f σ).bind fun p => match p.1 with
   | .str x => if okText x = true ∧ x.length ≤ bigN then some (.str x, p.2) else none
   | _ => none else none
theorem EOK_conv {x : Str} {px apos pos kp bp : Pos} {e : Expr} {i fa : Nat} {b : Bool} {kk : Nat} {f : FnD} (ok : C.OK) (H : HF C) (M : HM C "_convert_string_type" fa) (hC : ConvOK C k fa) (hi : vars[i]? = some x) (hx : Rd sc x) (h : EOK C k sc vars e f) (hpl : Plain [e])
   (he : ∀ env, ∃ pl, eval (.Call (.Attribute (.Name x px) "_convert_string_type" apos) [e] [⟨some "name", .Constant (.bool b) kk bp, kp⟩] pos) env = (do
     let ov ← eval (.Name x px) env
     standAt apos.atName
     let (f, first) ← holding [ov] (getMethod ov "_convert_string_type" pl)
     callWith pos f first (backTo pos (starEach [e] env)) (backToKw pos (keywordEach [⟨some "name", .Constant (.bool b) kk bp, kp⟩] env))))
   (hw : ∀ env, ((backTo pos (starEach [e] env)).any (·.1) || (backToKw pos (keywordEach [⟨some "name", .Constant (.bool b) kk bp, kp⟩] env)).any (·.1.isNone)) = false) :
   EOK C k sc vars (.Call (.Attribute (.Name x px) "_convert_string_type" apos) [e] [⟨some "name", .Constant (.bool b) kk bp, kp⟩] pos) (fConv i f) := by
 constructor
 intro env A P W F vm own s σ σ' d Q G Rm S R hf hQ
 unfold fConv at hf
 split at hf
 case isFalse => exact ns hf
 rename_i hself
 refine bs2 hf fun d0 σ1 e1 hf => ?_
 dsimp only at hf
 split at hf
 case h_2 => cases hf
 rename_i y
 split at hf
 case isFalse => exact ns hf
 rename_i hy
 nomatch hf, hQ
 refine Xeea (self_of R hi hself) fun a l v1 hx1 => ?_
 refine Xe (he env) fun pl he => ?_
 refine methodCall_KW (pl := pl) (read_name G R.vs S hx v1 (hdr_method ok H M S hx1 ?_)) he
 refine callWith_KW (K := C.K) (h₀ := C.H) (first := [.ref a]) ok.X M.k rfl ?_ (hw env) (hpl.c env e [] rfl)
 rw [hpl.c env e [] rfl]
 refine Calls.spliced_cons (h.go env A P W F vm own s σ _ _ _ G Rm S R e1 fun v P1 W1 F1 own1 s1 S1 T1 R1 r1 => Calls.spliced_nil ?_)
 refine kwAll_cons (wpAny_Constant_bool (kwAll_nil ⟨ok.X.keeps S1.keepH, ?_⟩))
 refine Xe r1 fun t q1 => ?_; subst q1
 exact hC A P1 W1 s1 (.ref a) y t b Q Rm S1 hy.1 hy.2 fun v P' s' hP S' r' => hQ v P' W1 F1 own1 s' S' (T1.trans (.le hP)) (R1.monoP hP) r'
end
section
noncomputable def allBut2 (h : Heap) (L d : Addr) : List (Addr × Obj) := (List.range h.objs.size).filterMap fun a => if a = L ∨ a = d then none else (h.get? a).map fun o => (a, o)
theorem mem_allBut2 {h : Heap} {L d a : Addr} {o : Obj} : (a, o) ∈ allBut2 h L d ↔ (a ≠ L ∧ a ≠ d) ∧ h.get? a = some o := by
 unfold allBut2
 rw [List.mem_filterMap]
 constructor
 · rintro ⟨b, _, e⟩
   split at e
   · cases e
   · rename_i hb
     cases q : h.get? b with
     | none => rw [q] at e; cases e
     | some o' => rw [q] at e; cases e; exact ⟨⟨fun x => hb (.inl x), fun x => hb (.inr x)⟩, q⟩
 · rintro ⟨⟨h1, h2⟩, e⟩
   exact Iea a (List.mem_range.mpr (Heap.lt_size e)) (by rw [if_neg (by rintro (x | x); exact h1 x; exact h2 x), e]; rfl)
theorem St.backSet {m : Str → Option Value} {h' : Heap} {tk : Nat} {d : Addr} {od od' : Obj} (S : St C P W s) (n : NsM W L m) (hd : W d = some od) (hne : d ≠ L) (F' : Fr noHeap L h' m) (N' : News noHeap L h' ([] ++ (d, od') :: allBut2 s.heap L d)) :
   ∃ W', Slk L (W.upd d od') W' ∧ St C P W' { s with heap := h', toks := tk } := by
 refine Xeeeaaa F'.ns fun oL es ep h1 h2 h3 h4 => ?_
 refine Xeeeaaa (id n) fun o0 es0 ep0 g1 g2 g3 g4 => ?_
 have keep : ∀ a o, a ≠ L → a ≠ d → s.heap.get? a = some o → h'.get? a = some o := fun a o ha hb e => (N' (a, o) (List.mem_append_right _ (.tail _ (mem_allBut2.mpr ⟨⟨ha, hb⟩, e⟩)))).1
 have atd : h'.get? d = some od' := (N' (d, od') (List.mem_append_right _ (.head _))).1
 have pL : P L = none := (S.w _ _ g1).2
 have pd : P d = none := (S.w _ _ hd).2
 refine Iea ((W.upd d od').upd L oL) ⟨fun a ha => Mp.upd_ne _ _ ha, fun m' hm => ?_⟩ ⟨S.gens, S.drawn, S.os, S.base, fun a o e => keep a o (by rintro rfl; rw [pL] at e; cases e) (by rintro rfl; rw [pd] at e; cases e) (S.p a o e), fun a o e => ?_⟩
 · refine Xeeeaaa hm fun o1 es1 ep1 k1 k2 k3 k4 => ?_
   rw [Mp.upd_ne _ _ (Ne.symm hne), g1] at k1; cases k1
   rw [g2] at k2; cases k2
   exact Ieeeaaa oL es ep (Mp.upd_self ..) h2 h3 (fun x => (h4 x).trans ((g4 x).symm.trans (k4 x)))
 · by_cases ha : a = L
   · subst ha; rw [Mp.upd_self] at e; cases e; exact ⟨h1, pL⟩
   · rw [Mp.upd_ne _ _ ha] at e
     by_cases hb : a = d
     · subst hb; rw [Mp.upd_self] at e; cases e; exact ⟨atd, pd⟩
     · rw [Mp.upd_ne _ _ hb] at e; exact ⟨keep a o ha hb (S.w a o e).1, (S.w a o e).2⟩
structure HI (C : Cx) : Prop where
 sa : findIn C.K (.ref C.hc) "__setattr__" = some (some (.builtin "object.__setattr__"))
 po : plainOver C.K C.hc = true
 tk : takerIn C.K C.hc "_headers" = some none
 hd : hasDictIn C.K C.hc = true
 made : makesIn C.K C.hc = true
theorem hset {m : Str → Option Value} {a dx : Addr} {v : Value} {Q : Unit → Shared → Prop} {E : Value → Shared → Prop} (ok : C.OK) (I : HI C) (S : St C P W s) (n : NsM W L m) (ha : P a = some (instObj C.hc dx)) (hd : W dx = some (dictOf [] 0)) (hne : dx ≠ L)
   (h : ∀ en W' s', en.key.isStr "_headers" = true → en.val = v → Slk L (W.upd dx (dictOf [en] 1)) W' → St C P W' s' → Q () s') : wpAny C.M A (setAttr (.ref a) "_headers" v) Q E s := by
 refine Xa (fr_of S n) fun Fm _ => ?_
 haveI N : News noHeap L s.heap ([] ++ (dx, dictOf [] 0) :: allBut2 s.heap L dx) := fun p hp => by
   rcases List.mem_cons.mp hp with rfl | hp
   · exact ⟨(S.w _ _ hd).1, hne, rfl⟩
   · refine Xa (mem_allBut2.mp hp) fun q1 q2 => ?_; exact ⟨q2, q1.1, rfl⟩
 haveI Ia : InstAt s.heap a (instObj C.hc dx) C.hc (some (dictOf [] 0)) := ⟨S.p _ _ ha, rfl, rfl, (S.w _ _ hd).1⟩
 haveI X := ok.X.keeps S.keepH
 refine set_plain X Ia I.sa (osa_dict (s := { s with toks := s.toks + 1 }) Fm N X Ia rfl I.po I.tk I.hd rfl (fun p hp => nomatch hp) (fun p hp => (mem_allBut2.mp hp).1.2) (by rw [putName_dict]) rfl (by simp [putL]) fun h' F' N' => ?_)
 refine Xea (S.backSet (tk := s.toks + 1 + 1) n hd hne F' N') fun W' q1 q2 => ?_
 refine h ⟨_, _, v⟩ W' _ ?_ rfl q1 q2
 rfl
end
section
noncomputable def fNewIf (i : Nat) (t : FnB) (f : FnD) (σ : LS) : Option (Fl × LS) :=
 (t σ).bind fun p => if p.1 = true then fAsg i f p.2 else some (.next, p.2.set i (.ownL false []))
theorem SOK_newIf {x : Str} {px pos lp ip : Pos} {te b : Expr} {i : Nat} {t : FnB} {f : FnD} (hi : vars[i]? = some x) (hx : Sto sc x) (ht : TOK C k sc vars te t) (h : EOK C k sc vars b f) :
   SOK C k sc vars (.Assign [.Name x px] (.IfExp te b (.List [] lp) ip) pos) (fNewIf i t f) := by
 constructor
 intro env A P W F vm own s σ σ' d Q G fu Rm S R hf hQ
 unfold fNewIf at hf
 refine bs2 hf fun c σ1 e1 hf => ?_
 refine wpAny_Assign_Name (wpAny_IfExp (ht.go env A P W F vm own s σ σ1 c _ G Rm S R e1 fun P1 W1 F1 own1 s1 S1 T1 R1 => ?_)) rfl
 cases c with
 | true =>
   unfold fAsg at hf
   refine ms2 hf fun a σ2 e2 hf => ?_
   nomatch hf, hQ
   refine h.go env A P1 W1 F1 vm own1 s1 σ1 σ2 a _ G Rm S1 R1 e2 fun v P2 W2 F2 own2 s2 S2 T2 R2 r2 => ?_
   exact set_val G S2 R2 hi (hx.at fu) r2 fun W3 vm3 own3 s3 S3 T3 R3 => hQ .next _ W3 _ vm3 own3 s3 S3 (T1.trans (T2.trans T3)) R3 rfl
 | false =>
   nomatch hf, hQ
   refine wpAny_List (lnl.go env lp A P1 W1 F1 vm own1 s1 σ1 σ1 [] _ G Rm S1 R1 rfl fun v P2 W2 F2 own2 s2 S2 T2 R2 r2 => ⟨by rw [show v = [] from r2]; decide, ?_⟩)
   refine set_new (sl := .ownL false []) (b := s2.heap.objs.size) G (S2.newW (tk := s2.toks) rfl) S2.freshW R2 hi (hx.at fu) rfl rfl rfl ⟨v, ⟨0, rfl⟩, r2⟩ fun W3 F3 vm3 own3 s3 S3 T3 R3 => hQ .next _ W3 _ vm3 own3 s3 S3 (T1.trans (T2.trans T3)) R3 rfl
noncomputable def fTypeAt (i : Nat) (σ : LS) : Option (D × LS) := match σ.getD i .non with
 | .ownL _ _ => some (.typ "list", σ)
 | .val (.list _) => some (.typ "list", σ)
 | .val (.str _) => some (.typ "str", σ)
 | _ => none
theorem EOK_typeAt {x : Str} {fp px pos : Pos} {i : Nat} (ok : C.OK) (hi : vars[i]? = some x) (hx : Rd sc x) (hl : sc.names.lookup ("type" : Str) = some NameKind.globalImplicit) (en : nsIn C.K mainGlobals ("type" : Str) = some none) (hb : bootBuiltins ("type" : Str) = some (.type "type")) :
   EOK C k sc vars (.Call (.Name "type" fp) [.Name x px] [] pos) (fTypeAt i) := by
 constructor
 intro env A P W F vm own s σ σ' d Q G Rm S R hf hQ
 refine call_type ok G S hl en hb dc dc ?_ rfl rfl
 show wpAny C.M A (spliced ((false, eval (.Name x px) env) :: [])) _ _ _
 unfold fTypeAt at hf
 haveI hs := R.sl i x hi
 cases e : σ.getD i .non with
 | ownL io xs =>
   rw [e] at hf
   nomatch hf, hQ
   refine Xeeaaaaa (R.ownAt hi e rfl) fun v o h1 h2 h3 w3 h6 h7 => ?_; refine Xea w3 fun vs h4 h5 => ?_
   refine Calls.spliced_cons (read_name G R.vs S hx h1 (Calls.spliced_nil ?_))
   rw [show v = .ref (own i) from h2]
   exact call_type_of (Tx := "list") (h4.list (S.w _ _ h3).1).typeIs (by decide +kernel) (hQ _ P W F own _ S (.refl ..) R rfl)
 | val d =>
   rw [e] at hf hs
   cases d with
   | list xs =>
     nomatch hf, hQ
     refine Xeaeeeaaa hs fun v h1 l o us q5 p q r => ?_; subst q5
     exact Calls.spliced_cons (read_name G R.vs S hx h1 (Calls.spliced_nil (call_type_of (Tx := "list") (q.list (S.p _ _ p)).typeIs (by decide +kernel) (hQ _ P W F own _ S (.refl ..) R rfl))))
   | str y =>
     nomatch hf, hQ
     refine Xeae hs fun v h1 t q3 => ?_; subst q3
     exact Calls.spliced_cons (read_name G R.vs S hx h1 (Calls.spliced_nil (call_type_of (Tx := "str") rfl (by decide +kernel) (hQ _ P W F own _ S (.refl ..) R rfl))))
   | _ => exact nosome hf
 | _ => rw [e] at hf; exact nosome hf
noncomputable def lstOf : Slot → Option (List D)
 | .ownL _ xs => some xs
 | .val (.list xs) => some xs
 | _ => none
noncomputable abbrev sS : Str := "self"
noncomputable abbrev sH : Str := "headers"
noncomputable abbrev hv4 : List Str := ["self", "headers", "k", "v"]
theorem lst_frz {vars : List Str} {env : Env} {σ : LS} {F : Addr → Prop} {vm : Str → Option Value} {own : Nat → Addr} {i : Nat} {x : Str} {xs : List D} {G : Prop} (S : St C P W s) (R : RelEnv C vars env σ P W F vm own) (hi : vars[i]? = some x) (g1 : lstOf (σ.getD i .non) = some xs)
   (k : ∀ l o us P3 W3, vm x = some (.ref l) → P3 l = some o → IsLst o us → Reps C P3 xs us → P.Le P3 → St C P3 W3 s → RelEnv C vars env (σ.set i (.val (.list xs))) P3 W3 F vm own → ((σ.getD i .non).own = true → P l = none ∧ F l) → (∀ b ob, W b = some ob → ¬ F b → W3 b = some ob) → G) : G := by
 have hsl := R.sl i x hi
 cases e : σ.getD i .non with
 | ownL io ys =>
   rw [e] at g1
   obtain rfl := sinj g1
   refine Xeeaaaaa (R.ownAt hi e rfl) fun z oz z1 z2 z3 z4 z5 z6 => ?_
   refine Xa (R.freeze S hi (by rw [e]; rfl) z1 (by rw [e]; exact z2) z3 (by rw [e]; exact z4)) fun Rf rf => ?_
   rw [e] at Rf
   refine Xea z4 fun us z7 z8 => ?_
   have hb2 := (S.w _ _ z3).2
   exact k (own i) oz us (P.upd (own i) oz) (W.del (own i)) (z1.trans (congrArg some z2)) (Mp.upd_self ..) z7 (Reps.mono (Mp.Le.upd hb2) _ z8) (Mp.Le.upd hb2) (S.freeze z3) Rf (fun _ => ⟨hb2, z5⟩) fun b ob eb nf => (Mp.del_ne _ (by rintro rfl; exact nf z5)).trans eb
 | val d =>
   rw [e] at g1 hsl
   cases d with
   | list ys =>
     obtain rfl := sinj g1
     refine Xeaeeeaaa hsl fun z z1 l o us q5 z2 z3 z4 => ?_; subst q5
     refine k l o us P W z1 z2 z3 z4 (.refl _) S ?_ (fun h => by rw [e] at h; exact noft h) fun b ob eb _ => eb
     haveI : σ.set i (.val (.list ys)) = σ := by
       apply List.ext_getElem?
       intro j
       by_cases hj : i = j
       · subst hj
         have h4 : i < σ.length := R.len ▸ (List.getElem?_eq_some_iff.mp hi).1
         rw [List.getElem?_set_self h4, ← e, List.getD, List.getElem?_eq_getElem h4]; rfl
       · rw [List.getElem?_set_ne hj]
     rw [this]; exact R
   | _ => exact nosome g1
 | _ => rw [e] at g1; exact nosome g1
theorem init_ok {fi : Addr} {fd : FuncData} {s1 s2 s4 : Stmt} {p1 p2 p3 p4 : Pos} {xs : List D} {a dx : Addr} {d : D} {v : Value} {args : List Value} {f1 f2 f4 : FnF} {σ1 σ2 : LS} {fl3 : LS} {R : Result → Shared → Prop} (ok : C.OK) (I : HI C)
   (X : DefAt C fi fd [s1, s2, .Assign [.Attribute (.Name "self" p1) "_headers" p2] (.Name "headers" p3) p4, s4])
   (hb : BindsTo s fd ⟨.ref a :: args, []⟩ [(sS, .ref a), (sH, v)])
   (hn : fd.scope.names.lookup sS = some NameKind.local ∧ fd.scope.names.lookup sH = some NameKind.local)
   (h1 : SOK C k fd.scope hv4 s1 f1) (h2 : SOK C k fd.scope hv4 s2 f2) (h4 : SOK C k fd.scope hv4 s4 f4)
   (e1 : f1 [.val (.raw (.ref a)), .val d, .non, .non] = some (.next, σ1)) (e2 : f2 σ1 = some (.next, σ2)) (g0 : σ2.getD 0 .non = .val (.raw (.ref a))) (g1 : lstOf (σ2.getD 1 .non) = some xs)
   (e4 : f4 ((σ2.set 1 (.val (.list xs))).set 0 (.val (.inst a))) = some (.next, fl3))
   (Rm : Room (k + 1) A) (S : St C P W s) (ha : P a = some (instObj C.hc dx)) (hd : W dx = some (dictOf [] 0)) (hv : Rep C P d v)
   (hR : ∀ P' s' l o us, P.Le P' → St C P' (W.del dx) s' → HdrAt C.hc P' a l → P' l = some o → IsLst o us → Reps C P' xs us → ((σ2.getD 1 .non).own = true → P l = none ∧ W l = none) → R (.ok (.ret .none)) s') :
   codeAny C.M A (.call (.ref fi) ⟨.ref a :: args, []⟩) R s := by
 refine enter_def (names := [sS, sH]) (vs := [.ref a, v]) ok X hb rfl (by
   intro x hx
   rcases List.mem_cons.mp hx with rfl | hx
   · exact .inl hn.1
   · rcases List.mem_cons.mp hx with rfl | hx
     · exact .inl hn.2
     · cases hx) dc Rm S fun env W0 F s0 G fu Rm' S0 V hW => ?_
 refine Xa (hW dx _ hd) fun wd nd => ?_
 haveI R0 : RelEnv C hv4 env [.val (.raw (.ref a)), .val d, .non, .non] P W0 F (fun x => (([sS, sH] : List Str).zip [.ref a, v]).lookup x) (fun _ => 0) := by
   exact ⟨V, by decide, rfl, fun i x hx => Reps.vals (names := [sS, sH]) (rest := hv4.drop 2) (ds := [.raw (.ref a), d]) dc ⟨_, _, rfl, rfl, Reps.one hv⟩ rfl i x hx, (fun i hi => noft (noOwn (ds := [.raw (.ref a), d]) (n := 2) (i := i) ▸ hi)), (fun i j _ hi => noft (noOwn (ds := [.raw (.ref a), d]) (n := 2) (i := i) ▸ hi))⟩
 refine wpAny_execs_cons (h1.go env _ P W0 F _ _ s0 _ σ1 .next _ G fu Rm' S0 R0 e1 fun fl1 P1 W1 F1 vm1 own1 s1' S1 T1 R1 r1 => ?_)
 rw [show fl1 = .next from r1]
 refine wpAny_execs_cons (h2.go env _ P1 W1 F1 vm1 own1 s1' σ1 σ2 .next _ G fu Rm' S1 R1 e2 fun fl2 P2 W2 F2 vm2 own2 s2' S2 T2 R2 r2 => ?_)
 rw [show fl2 = .next from r2]
 have T12 := T1.trans T2
 haveI rdS : Rd fd.scope sS := ⟨.inl hn.1, by decide, by decide⟩
 haveI rdH : Rd fd.scope sH := ⟨.inl hn.2, by decide, by decide⟩
 obtain ⟨vs, q1, q2⟩ : ∃ v', vm2 sS = some v' ∧ Rep C P2 (.raw (.ref a)) v' := by have := R2.sl 0 sS rfl; rw [g0] at this; exact this
 obtain rfl : vs = .ref a := q2
 have len2 : σ2.length = 4 := R2.len
 refine lst_frz S2 R2 (i := 1) (x := sH) rfl g1 fun l o us P3 W3 hl1 hl2 hl3 hl4 hle S3 R3 hown0 hkeep => ?_
 have hdx : ∀ b ob, W b = some ob → W3 b = some ob ∧ ¬ F2 b := fun b ob e => by
   refine Xa (hW b ob e) fun x1 x2 => ?_
   haveI x3 : ¬ F2 b := fun h => (T12.f b h).elim x2 fun q => nosome (q.symm.trans x1)
   exact ⟨hkeep b ob (T12.w b ob x1 x2) x3, x3⟩
 haveI hown : (σ2.getD 1 .non).own = true → P l = none ∧ W l = none := fun h => by
   refine Xa (hown0 h) fun x1 x2 => ⟨?_, ?_⟩
   · cases q : P l with
     | none => rfl
     | some ob => exact nosome (x1.symm.trans (T12.p _ _ q))
   · cases q : W l with
     | none => rfl
     | some ob => exact absurd x2 (hdx _ _ q).2
 refine Xa (hdx dx _ hd) fun wdx ndx => ?_
 refine wpAny_execs_cons (plainObj_wpAny_Assign_Attribute (read_name G R3.vs S3 rdH hl1 (read_name G R3.vs S3 rdS q1 ?_)) rfl)
 refine Xe R3.vs.nsM fun m n => ?_
 have a2 : P3 a = some (instObj C.hc dx) := hle _ _ (T12.p _ _ ha)
 have neL : dx ≠ env.locals := fun e => ndx (e ▸ R3.vs.locF)
 refine hset ok I S3 n a2 wdx neL fun en W4 s4' en1 en2 hS4 S4 => ?_
 have w4 : W4 dx = some (dictOf [en] 1) := (hS4.off dx neL).trans (Mp.upd_self ..)
 have S5 := S4.freeze w4
 have p3dx : P3 dx = none := (S4.w _ _ w4).2
 have hle5 : P3.Le (P3.upd dx (dictOf [en] 1)) := Mp.Le.upd p3dx
 have slk : Slk env.locals (W3.del dx) (W4.del dx) := by
   refine ⟨fun b hb => ?_, fun m' hm => ?_⟩
   · by_cases hbd : b = dx
     · subst hbd; rw [Mp.del_self, Mp.del_self]
     · rw [Mp.del_ne _ hbd, Mp.del_ne _ hbd, hS4.off b hb, Mp.upd_ne _ _ hbd]
   · refine Xeeea hm fun oL es ep l1 l2 => ?_
     refine Xeeea (hS4.ns m' ⟨oL, es, ep, by rw [Mp.upd_ne _ _ (Ne.symm neL)]; rw [Mp.del_ne _ (Ne.symm neL)] at l1; exact l1, l2⟩) fun oL' es' ep' k1 k2 => ?_
     exact Ieeea oL' es' ep' (by rw [Mp.del_ne _ (Ne.symm neL)]; exact k1) k2
 have R5 : RelEnv C hv4 env (σ2.set 1 (.val (.list xs))) (P3.upd dx (dictOf [en] 1)) (W4.del dx) F2 vm2 own2 :=
   ((R3.monoP hle5).frameW (fun b ob hb e => by rw [Mp.del_ne _ (by rintro rfl; exact ndx hb)]; exact e) (fun x c ob hc e => by
     rw [Mp.del_ne _ ?_]; exact e
     rintro rfl
     exact ndx (R3.vs.celF fu x _ hc)) fun _ h => h).slk slk
 have hat : HdrAt C.hc (P3.upd dx (dictOf [en] 1)) a l := ⟨dx, #[], en, by rw [Mp.upd_ne _ _ (by rintro rfl; rw [a2] at p3dx; cases p3dx)]; exact a2, Mp.upd_self .., en1, en2⟩
 have R6 : RelEnv C hv4 env ((σ2.set 1 (.val (.list xs))).set 0 (.val (.inst a))) (P3.upd dx (dictOf [en] 1)) (W4.del dx) F2 vm2 own2 := by
   have l0 : 0 < (σ2.set 1 (.val (.list xs))).length := by rw [List.length_set]; lia
   have isOwn : ∀ j, (((σ2.set 1 (.val (.list xs))).set 0 (.val (.inst a))).getD j .non).own = true → ((σ2.set 1 (.val (.list xs))).getD j .non).own = true := fun j hj => by
     by_cases h0 : j = 0
     · subst h0; rw [getD_set_self l0] at hj; cases hj
     · rw [getD_set_ne h0] at hj; exact hj
   refine ⟨R5.vs, R5.nd, by rw [List.length_set]; exact R5.len, fun j y hj => ?_, fun j hj => R5.apL j (isOwn j hj), fun j j' hne hj hj' => R5.apO j j' hne (isOwn j hj) (isOwn j' hj')⟩
   by_cases h0 : j = 0
   · subst h0
     rw [getD_set_self l0]
     obtain rfl : sS = y := Option.some.inj hj
     exact Ieaae (.ref a) q1 rfl l hat
   · rw [getD_set_ne h0]; exact R5.sl j y hj
 refine wpAny_execs_cons (h4.go env _ _ _ F2 vm2 own2 s4' _ fl3 .next _ G fu Rm' S5 R6 e4 fun fl4 P6 W6 F6 vm6 own6 s6 S6 T6 R6' r6 => ?_)
 rw [show fl4 = .next from r6]
 refine wpAny_execs_nil ?_
 refine hR P6 s6 l o us ((T12.p.trans hle).trans (hle5.trans T6.p)) (S6.less fun b ob e => ?_) (hat.mono T6.p) (T6.p _ _ (hle5 _ _ hl2)) hl3 (Reps.mono (hle5.trans T6.p) _ hl4) hown
 have hb : b ≠ dx := by rintro rfl; rw [Mp.del_self] at e; cases e
 rw [Mp.del_ne _ hb] at e
 refine Xa (hdx b ob e) fun x1 x2 => ?_
 refine T6.w b ob ?_ x2
 rw [Mp.del_ne _ hb, hS4.off b (fun q => x2 (q ▸ R3.vs.locF)), Mp.upd_ne _ _ hb]
 exact x1
end
section
noncomputable def InitOK (C : Cx) (k : Nat) (fi : Addr) (d : D) (xs : List D) (new : Bool) : Prop :=
 ∀ (A : Around) (P W : Mp) (s : Shared) (a dx : Addr) (v : Value) (args : List Value) (R : Result → Shared → Prop), Room k A → St C P W s → P a = some (instObj C.hc dx) → W dx = some (dictOf [] 0) → Rep C P d v → (args = [v] ∨ (args = [] ∧ v = .none)) →
   (∀ P' s' l o us, P.Le P' → St C P' (W.del dx) s' → HdrAt C.hc P' a l → P' l = some o → IsLst o us → Reps C P' xs us → (new = true → P l = none ∧ W l = none) → R (.ok (.ret .none)) s') →
   codeAny C.M A (.call (.ref fi) ⟨.ref a :: args, []⟩) R s
theorem room_make {c : Code} {n : Nat} (h1 : c.weight ≤ 1) (h2 : c.cUnits ≤ 10) (Rm : Room (n + 1) A) : Room n (A.under c) := by
 refine ⟨Rm.1, ?_, ?_⟩
 · show A.depth + c.weight + n < _
   have := Rm.2.1; omega
 · show A.units + c.cUnits + 10 * n + 20 < _
   have := Rm.2.2; lia
theorem make_wt {a : Addr} {r : List Value} {kw : List (Str × Value)} : (Code.builtin "type.__call__" ⟨.ref a :: r, kw⟩).weight ≤ 1 ∧ (Code.builtin "type.__call__" ⟨.ref a :: r, kw⟩).cUnits ≤ 10 := by
 haveI h : (Code.builtin "type.__call__" ⟨.ref a :: r, kw⟩).frames = 0 := by rfl
 haveI hg : guardIds.contains "type.__call__" = false := by decide
 haveI hw : (Code.builtin "type.__call__" ⟨.ref a :: r, kw⟩).weight = 0 + 1 + (if guardIds.contains "type.__call__" = true then 1 else 0) + 0 := rfl
 haveI hu : (Code.builtin "type.__call__" ⟨.ref a :: r, kw⟩).cUnits = 1 + 3 * 0 := rfl
 rw [hw, hu, hg]
 exact ⟨by decide, by decide⟩
theorem make_core' {d : D} {xs : List D} {new : Bool} {fi : Addr} {v : Value} {args : List Value} {Q : Value → Shared → Prop} (ok : C.OK) (I : HI C) (M : HM C "__init__" fi) (hI : InitOK C k fi d xs new) (Rm : Room (k + 1) A) (S : St C P W s) (hv : Rep C P d v) (ha : args = [v] ∨ (args = [] ∧ v = .none))
   (h : ∀ a P' s' l o us, P.Le P' → St C P' W s' → HdrAt C.hc P' a l → P' l = some o → IsLst o us → Reps C P' xs us → (new = true → P l = none ∧ W l = none) → Q (.ref a) s') : wpAny C.M A (call (.ref C.hc) args) Q NoE s := by
 refine wpAny_call ?_
 have X := ok.X.keeps S.keepH
 have S1 := S.newW (tk := s.toks) (o := dictOf [] 0) rfl
 haveI S2 := S1.newP (tk := s.toks) (o := instObj C.hc s.heap.objs.size) rfl
 haveI nW : W s.heap.objs.size = none := S.freshW
 haveI hle : P.Le (P.upd (s.heap.push (dictOf [] 0)).objs.size (instObj C.hc s.heap.objs.size)) := Mp.Le.upd S1.freshP
 have sz : (s.heap.push (dictOf [] 0)).objs.size = s.heap.objs.size + 1 := by rw [Heap.size_push]
 obtain ⟨hh, g, dd, t, os⟩ := s
 refine make_core (makes_of X I.made) (looks_findIn X M.fn) (fun self => bind_fn X self M.t) (.inl rfl) ?_
 dsimp only at S1 S2 nW hle sz
 rw [sz] at S2 hle
 refine hI (A.under _) _ _ _ (hh.objs.size + 1) hh.objs.size v args _ (room_make make_wt.1 make_wt.2 Rm) S2 (Mp.upd_self ..) (Mp.upd_self ..) (Rep.mono hle _ hv) ha fun P' s' l o us hP S' hx p q r hn => ⟨rfl, ?_⟩
 refine h _ P' s' l o us (hle.trans hP) (S'.less fun b ob e => ?_) hx p q r fun hnew => ?_
 · have hb : b ≠ hh.objs.size := by rintro rfl; rw [nW] at e; cases e
   rw [Mp.del_ne _ hb, Mp.upd_ne _ _ hb]; exact e
 · refine Xa (hn hnew) fun x1 x2 => ?_
   constructor
   · cases e : P l with
     | none => rfl
     | some ob => rw [hle _ _ e] at x1; cases x1
   · by_cases hb : l = hh.objs.size
     · rw [hb]; exact nW
     · rw [Mp.upd_ne _ _ hb] at x2; exact x2
noncomputable def fHnew (g : List D → Bool) (f : FnD) (σ : LS) : Option (D × LS) := (f σ).bind fun p => match p.1 with
 | .list xs => if g xs = true then some (.hdr xs, p.2) else none
 | _ => none
theorem EOK_hnew {x : Str} {fp pos : Pos} {e : Expr} {fi : Addr} {g : List D → Bool} {f : FnD} (ok : C.OK) (I : HI C) (M : HM C "__init__" fi) (hg : ∀ xs, g xs = true → ∃ k', k = k' + 1 ∧ InitOK C k' fi (.list xs) xs false) (h : EOK C k sc vars e f)
   (hx : sc.names.lookup x = some .globalImplicit) (en : nsIn C.K mainGlobals x = some (some (.ref C.hc))) (hk : keepIn C.K (.ref C.hc) = true) (hd : (x == ("__debug__" : Str)) = false) (hp : Plain [e]) :
   EOK C k sc vars (.Call (.Name x fp) [e] [] pos) (fHnew g f) := by
 constructor
 intro env A P W F vm own s σ σ' d Q G Rm S R hf hQ
 unfold fHnew at hf
 refine bs2 hf fun d0 σ1 e1 hf => ?_
 cases d0 <;> first | exact ns hf | (cases hf; done) | skip
 rename_i xs
 dsimp only at hf
 split at hf
 case isFalse => exact ns hf
 rename_i hgx
 nomatch hf, hQ
 refine Xea (hg xs hgx) fun k' q1 hI => ?_; subst q1
 show wpAny C.M A (eval (.Name x fp) env >>= fun f => callWith pos f [] (backTo pos (starEach [e] env)) (backToKw pos (keywordEach [] env))) Q NoE s
 refine wpAny_bind (Name_function_global G.kind ((G.kindOf x).trans hx) (loadGlobal_global (by rw [G.g]; exact ok.T.g.keeps S.keepH) (mg_of ok.X ok.T.g en) ?_) hd)
 refine callWith_K (K := C.K) (h₀ := C.H) (first := []) ok.X hk ?_ (hp.c env e [] rfl) rfl
 rw [hp.c env e [] rfl]
 refine Calls.spliced_cons (h.go env A P W F vm own s σ _ _ _ G Rm S R e1 fun v P1 W1 F1 own1 s1 S1 T1 R1 r1 => Calls.spliced_nil ⟨ok.X.keeps S1.keepH, ?_⟩)
 refine make_core' ok I M hI Rm S1 r1 (.inl rfl) fun a P' s' l o us hP S' hx' p q r _ => ?_
 exact hQ _ P' W1 F1 own1 s' S' (T1.trans (.le hP)) (R1.monoP hP) ⟨a, l, o, us, rfl, hx', p, q, r⟩
theorem SOK_hnew0 {x y : Str} {px fp cp pos : Pos} {i fi k' : Nat} (ok : C.OK) (I : HI C) (M : HM C "__init__" fi) (hk' : k = k' + 1) (hI : InitOK C k' fi .none [] true) (hi : vars[i]? = some x) (hx : Sto sc x)
   (hy : sc.names.lookup y = some .globalImplicit) (en : nsIn C.K mainGlobals y = some (some (.ref C.hc))) (hk : keepIn C.K (.ref C.hc) = true) (hd : (y == ("__debug__" : Str)) = false) :
   SOK C k sc vars (.Assign [.Name x px] (.Call (.Name y fp) [] [] cp) pos) (fNewE i (.ownH false [])) := by
 constructor
 intro env A P W F vm own s σ σ' d Q G fu Rm S R hf hQ
 subst hk'
 nomatch hf, hQ
 refine wpAny_Assign_Name ?_ rfl
 show wpAny C.M A (eval (.Name y fp) env >>= fun f => callWith cp f [] (backTo cp (starEach [] env)) (backToKw cp (keywordEach [] env))) _ NoE s
 refine wpAny_bind (Name_function_global G.kind ((G.kindOf y).trans hy) (loadGlobal_global (by rw [G.g]; exact ok.T.g.keeps S.keepH) (mg_of ok.X ok.T.g en) ?_) hd)
 refine callWith_K0 (K := C.K) (first := []) (ok.X.keeps S.keepH) hk ?_
 refine make_core' (v := .none) ok I M hI Rm S rfl (.inr ⟨rfl, rfl⟩) fun a P' s' l o us hP S' hx' p q r hn => ?_
 refine Xa (hn rfl) fun nP nW => ?_
 haveI hus : us = [] := r
 subst hus
 have leP : P.Le (P'.del l) := fun b ob e => by
   have hb : b ≠ l := by rintro rfl; rw [nP] at e; cases e
   rw [Mp.del_ne _ hb]; exact hP _ _ e
 have S2 : St C (P'.del l) (W.upd l o) s' := by
   refine ⟨S'.gens, S'.drawn, S'.os, fun b ob e => leP _ _ (S.base b ob e), fun b ob e => ?_, fun b ob e => ?_⟩
   · by_cases hb : b = l
     · subst hb; rw [Mp.del_self] at e; cases e
     · rw [Mp.del_ne _ hb] at e; exact S'.p b ob e
   · by_cases hb : b = l
     · subst hb; rw [Mp.upd_self] at e; cases e; exact ⟨S'.p _ _ p, Mp.del_self ..⟩
     · rw [Mp.upd_ne _ _ hb] at e; rw [Mp.del_ne _ hb]; exact S'.w b ob e
 refine Xe (id q) fun n eo => ?_
 have hx2 : HdrAt C.hc (P'.del l) a l := by
   refine Xeeeaaa hx' fun dx sl en h1 h2 h3 h4 => ?_
   refine Ieeeaaa dx sl en ?_ ?_ h3 h4
   · rw [Mp.del_ne _ (by rintro rfl; rw [p, eo] at h1; injection h1 with h1; injection h1 with h1; cases h1)]; exact h1
   · rw [Mp.del_ne _ (by
       rintro rfl
       rw [p, eo] at h2
       unfold dictOf at h2
       injection h2 with h2
       injection (h2) with h2
       injection (h2) with h2
       exact absurd h2 dc)]
     exact h2
 exact set_new (sl := .ownH false []) (b := l) G S2 nW (R.monoP leP) hi (hx.at fu) rfl rfl ⟨a, rfl, hx2⟩ ⟨[], q, rfl⟩ fun W3 F3 vm3 own3 s3 S3 T3 R3 => hQ .next _ W3 _ vm3 own3 s3 S3 ((Step.le leP).trans T3) R3 rfl
end
section
structure TabK (C : Cx) (ta : Addr) (es : Array DictEntry) : Prop where
 at' : ∃ n, C.K.lookup ta = some ⟨.type "dict", none, .dict es n, #[]⟩
 keys : KeysLit C.w.params es.toList
 lo : (ta == sysModules) = false
noncomputable def tokOf (es : Array DictEntry) (x : Str) : Option Int := match findBy Value.isStrOf es x with
 | some (.int n _) => some n
 | _ => none
noncomputable def fInTop (es : Array DictEntry) (f : FnD) (σ : LS) : Option (Bool × LS) := (f σ).bind fun p => match p.1 with
 | .str x => some ((findBy Value.isStrOf es x).isSome, p.2)
 | _ => none
theorem TOK_inTop {e : Expr} {y : Str} {yp pos : Pos} {ta : Addr} {es : Array DictEntry} {f : FnD} (ok : C.OK) (X : TabK C ta es) (h : EOK C k sc vars e f) (hm : behindInMarks .In (.Name y yp) = false)
   (hy : sc.names.lookup y = some .globalImplicit) (en : nsIn C.K mainGlobals y = some (some (.ref ta))) (hd : (y == ("__debug__" : Str)) = false) : TOK C k sc vars (.Compare e [.In] [.Name y yp] pos) (fInTop es f) := by
 constructor
 intro env A P W F vm own s σ σ' d Q G Rm S R hf hQ
 unfold fInTop at hf
 refine bs2 hf fun d0 σ1 e1 hf => ?_
 cases d0 <;> first | exact ns hf | (cases hf; done) | skip
 rename_i x
 nomatch hf, hQ
 obtain ⟨n, hl⟩ := X.at'
 refine wpAny_isTrue_Compare1 (h.go env A P W F vm own s σ _ _ _ G Rm S R e1 fun v P1 W1 F1 own1 s1 S1 T1 R1 r1 => ?_) hm
 obtain ⟨t, rfl⟩ := r1
 refine Name_function_global G.kind ((G.kindOf y).trans hy) (loadGlobal_global (by rw [G.g]; exact ok.T.g.keeps S1.keepH) (mg_of ok.X ok.T.g en) ?_) hd
 exact wpAny_in_of (strKind_is C.prog C.w x t) X.lo (mapOf_K (prog := C.prog) (ok.X.keeps S1.keepH) hl X.keys) (wpAny_truthy_bool (hQ P1 W1 F1 own1 _ (S1.toks _) T1 R1))
noncomputable def fItemTop (es : Array DictEntry) (f : FnD) (σ : LS) : Option (D × LS) := (f σ).bind fun p => match p.1 with
 | .str x => (tokOf es x).map fun n => (.int n, p.2)
 | _ => none
theorem EOK_itemTop {e : Expr} {y : Str} {yp pos : Pos} {ta : Addr} {es : Array DictEntry} {f : FnD} (ok : C.OK) (X : TabK C ta es) (h : EOK C k sc vars e f)
   (hy : sc.names.lookup y = some .globalImplicit) (en : nsIn C.K mainGlobals y = some (some (.ref ta))) (hd : (y == ("__debug__" : Str)) = false)
   (hs : ∀ o i : Value, subscripted e false o i = operate [o, i] (getItem o i)) : EOK C k sc vars (.Subscript (.Name y yp) e pos) (fItemTop es f) := by
 constructor
 intro env A P W F vm own s σ σ' d Q G Rm S R hf hQ
 unfold fItemTop at hf
 refine bs2 hf fun d0 σ1 e1 hf => ?_
 cases d0 <;> first | exact ns hf | (cases hf; done) | skip
 rename_i x
 refine ms1 hf fun n' e2 hf => ?_
 nomatch hf, hQ
 obtain ⟨n, hl⟩ := X.at'
 refine Subscript_ (Name_function_global G.kind ((G.kindOf y).trans hy) (loadGlobal_global (by rw [G.g]; exact ok.T.g.keeps S.keepH) (mg_of ok.X ok.T.g en) ?_) hd)
 refine h.go env A P W F vm own s σ _ _ _ G Rm S R e1 fun v P1 W1 F1 own1 s1 S1 T1 R1 r1 => ?_
 obtain ⟨t, rfl⟩ := r1
 haveI hm := mapOf_K (prog := C.prog) (w := C.w) (ok.X.keeps S1.keepH) hl X.keys
 unfold tokOf at e2
 split at e2
 · rename_i m tm e3
   cases e2
   exact tail_any hm.typeIs slot_dict_getitem.lookup (wpAny_getItem_of (strKind_is C.prog C.w x t) hm e3 (hQ _ P1 W1 F1 own1 _ (S1.toks _) T1 R1 ⟨tm, rfl⟩)) (hs _ _)
 · cases e2
noncomputable def fIO (i : Nat) (g : List D → List D → Option (D × List D)) (h : FnL) (σ : LS) : Option (D × LS) :=
 (h σ).bind fun q => (ownLAt i q.2).bind fun l => (g q.1 l.2).map fun r => (r.1, q.2.set i (.ownL l.1 r.2))
noncomputable def PostO (C : Cx) (vars : List Str) (env : Env) (P W : Mp) (F : Addr → Prop) (vm : Str → Option Value) (x : Str) (σ' : LS) (d : List D) (Q : List Value → Shared → Prop) : Prop := ∀ vs v P' W' F' own' s', St C P' W' s' → Step P W F P' W' F' → RelEnv C vars env σ' P' W' F' vm own' → Reps C P' d vs → vm x = some v → Q (vs ++ [v]) s'
structure LOKo (C : Cx) (k : Nat) (sc : Scope) (vars : List Str) (x : Str) (es : List Expr) (f : FnL) : Prop where
 go : ∀ (env : Env) (pos : Pos) (A : Around) (P W : Mp) (F : Addr → Prop) (vm : Str → Option Value) (own : Nat → Addr) (s : Shared) (σ σ' : LS) (d : List D) (Q : List Value → Shared → Prop),
   EnvG sc env → Room k A → St C P W s → RelEnv C vars env σ P W F vm own → f σ = some (d, σ') →
   PostO C vars env P W F vm x σ' d Q →
   wpAny C.M A (spliced (backTo pos (starEach es env))) Q NoE s
noncomputable def fLast (i : Nat) (σ : LS) : Option (List D × LS) := (ownLAt i σ).map fun _ => ([], σ)
theorem LOKo_last {x : Str} {px : Pos} {i : Nat} (hi : vars[i]? = some x) (hx : Rd sc x) : LOKo C k sc vars x [.Name x px] (fLast i) := by
 constructor
 intro env pos A P W F vm own s σ σ' d Q G Rm S R hf hQ
 unfold fLast at hf
 refine ms2 hf fun io xs e0 hf => ?_
 nomatch hf, hQ
 refine Xeea (R.ownAt hi (ownLAt_eq e0) rfl) fun v o v1 _ => ?_
 show wpAny C.M A (spliced [(false, eval (.Name x px) env)]) Q NoE s
 exact Calls.spliced_cons (read_name G R.vs S hx v1 (Calls.spliced_nil (hQ [] v P W F own s S (.refl ..) R Reps.nil v1)))
theorem LOKo_cons {x : Str} {e : Expr} {es : List Expr} {f : FnD} {g : FnL} (he : EOK C k sc vars e f) (hes : LOKo C k sc vars x es g)
   (hs : ∀ env, starEach (e :: es) env = (false, eval e env) :: starEach es env) : LOKo C k sc vars x (e :: es) (fC_ f g) := by
 constructor
 intro env pos A P W F vm own s σ σ' d Q G Rm S R hf hQ
 unfold fC_ at hf
 refine bs2 hf fun a σ1 e1 hf => ?_
 refine bs2 hf fun b σ2 e2 hf => ?_
 nomatch hf, hQ
 rw [hs]
 show wpAny C.M A (spliced ((false, eval e env) :: backTo pos (starEach es env))) Q NoE s
 unfold spliced
 refine wpAny_bind (he.go env A P W F vm own s σ σ1 a _ G Rm S R e1 fun u P1 W1 F1 own1 s1 S1 T1 R1 r1 => ?_)
 refine wpAny_bind (wpAny_pure (wpAny_bind (wpAny_holding ?_)))
 refine hes.go env pos A P1 W1 F1 vm own1 s1 σ1 σ2 b _ G Rm S1 R1 e2 fun vs v P2 W2 F2 own2 s2 S2 T2 R2 r2 hv => ?_
 exact wpAny_pure (hQ (u :: vs) v P2 W2 F2 own2 s2 S2 (T1.trans T2) R2 ⟨u, vs, rfl, Rep.mono T2.p a r1, r2⟩ hv)
theorem EOK_callIO {x y : Str} {fp pos : Pos} {e : Expr} {es : List Expr} {i fa : Nat} {g : List D → List D → Option (D × List D)} {h : FnL} (ok : C.OK) (hi : vars[i]? = some x)
   (hg : ∀ ds xs d xs', g ds xs = some (d, xs') → FnIO C k (.ref fa) false ds (.ownL true xs) (.ownL true xs') d) (ha : LOKo C k sc vars x (e :: es) h)
   (hy : sc.names.lookup y = some .globalImplicit) (en : nsIn C.K mainGlobals y = some (some (.ref fa))) (hk : keepIn C.K (.ref fa) = true) (hd : (y == ("__debug__" : Str)) = false) (hp : Plain (e :: es)) (hp' : Plain es) :
   EOK C k sc vars (.Call (.Name y fp) (e :: es) [] pos) (fIO i g h) := by
 constructor
 intro env A P W F vm own s σ σ' d Q G Rm S R hf hQ
 unfold fIO at hf
 refine bs2 hf fun ds σ2 e1 hf => ?_
 refine bs2 hf fun io xs e2 hf => ?_
 refine ms2 hf fun dd xs' e3 hf => ?_
 nomatch hf, hQ
 show wpAny C.M A (eval (.Name y fp) env >>= fun f => callWith pos f [] (backTo pos (starEach (e :: es) env)) (backToKw pos (keywordEach [] env))) Q NoE s
 refine wpAny_bind (Name_function_global G.kind ((G.kindOf y).trans hy) (loadGlobal_global (by rw [G.g]; exact ok.T.g.keeps S.keepH) (mg_of ok.X ok.T.g en) ?_) hd)
 refine callWith_K (K := C.K) (h₀ := C.H) (first := []) ok.X hk (ha.go env pos A P W F vm own s σ _ ds _ G Rm S R e1 fun vs v P2 W2 F2 own2 s2 S2 T2 R2 r2 hv => ⟨ok.X.keeps S2.keepH, ?_⟩) (hp.c env e es rfl) (hp'.any env pos)
 haveI e2' := ownLAt_eq e2
 refine Xeeaaaaa (R2.ownAt hi e2' rfl) fun z oz z1 z2 z3 z4 z5 z6 => ?_
 obtain rfl : z = v := Option.some.inj (z1.symm.trans hv)
 refine hg ds xs dd xs' e3 A P2 W2 s2 vs z (own2 i) oz Q Rm S2 r2 z2 z3 z4 fun u P' s' o1 hP S' hob hr => ?_
 haveI R' := R2.monoP hP
 exact hQ u P' _ F2 own2 s' S' (T2.trans ((Step.le hP).trans (step_set z5))) (R'.setOwn (sl := .ownL io xs') hi (by rw [e2']; rfl) z1 z2 rfl z5 z6 hob) hr
noncomputable def fNeg (f : FnD) (σ : LS) : Option (D × LS) := (f σ).bind fun p => (intD p.1).map fun n => (.int (-n), p.2)
theorem EOK_neg {e : Expr} {pos : Pos} {f : FnD} (h : EOK C k sc vars e f) : EOK C k sc vars (.UnaryOp .USub e pos) (fNeg f) := by
 constructor
 intro env A P W F vm own s σ σ' d Q G Rm S R hf hQ
 unfold fNeg at hf
 refine bs2 hf fun d0 σ1 e1 hf => ?_
 refine ms1 hf fun n e2 hf => ?_
 nomatch hf, hQ
 obtain rfl : d0 = .int n := intD_eq e2
 refine wpAny_UnaryOp (h.go env A P W F vm own s σ _ _ _ G Rm S R e1 fun v P1 W1 F1 own1 s1 S1 T1 R1 r1 => ?_)
 obtain ⟨t, rfl⟩ := r1
 exact PySem.P.neg_int (hQ _ P1 W1 F1 own1 _ (S1.toks _) T1 R1 ⟨_, rfl⟩)
end
end
noncomputable def fdOf (K : Frag) (a : Addr) : Option FuncData := match K.lookup a with
 | some ⟨_, _, .func fd, _⟩ => some fd
 | _ => none
theorem fdOf_eq {K : Frag} {a : Addr} {fd : FuncData} (h : fdOf K a = some fd) : ∃ oc od osl, K.lookup a = some ⟨oc, od, .func fd, osl⟩ := by
 unfold fdOf at h
 cases e : K.lookup a with
 | none => rw [e] at h; exact nosome h
 | some o =>
   rw [e] at h
   cases o with
   | mk c d t s => cases t with
     | func f => obtain rfl := sinj h; exact ⟨c, d, s, rfl⟩
     | _ => exact nosome h
noncomputable def fdm (q : Str) (dv : Value) (m : Str) (t : Tok) (c : Addr) : Stmt → FuncData
 | .FunctionDef n a b _ _ _ sc _ _ _ => { name := n, qualname := q, params := a, body := .stmts b, scope := sc, globals := 3, closure := [], defaults := dv, kwdefaults := .none, pyModule := .str m t, code := .ref c }
 | _ => { name := "", qualname := "", params := ⟨[], [], none, [], [], none, []⟩, body := .stmts [], scope := { kind := .function, names := [], isGenerator := false, isCoroutine := false }, globals := 0, closure := [], defaults := .none, kwdefaults := .none }
noncomputable def top (i : Nat) : Stmt := PySem.Challenge.pw_zd0017_01.main.body.getD i (.Pass ⟨0, 0, 0, 0⟩)
noncomputable def inC (i : Nat) : Stmt := match top 5 with
 | .ClassDef _ _ _ b _ _ _ _ _ _ _ => b.getD i (.Pass ⟨0, 0, 0, 0⟩)
 | s => s
noncomputable def f63 : FuncData := fdm "Headers.__init__" (.ref 56) "cpy313.wsgiref.headers" 289 62 (inC 0)
noncomputable def f70 : FuncData := fdm "Headers._convert_string_type" (.none) "cpy313.wsgiref.headers" 289 69 (inC 1)
noncomputable def f118 : FuncData := fdm "Headers.get" (.ref 111) "cpy313.wsgiref.headers" 289 117 (inC 8)
noncomputable def f135 : FuncData := fdm "Headers.items" (.none) "cpy313.wsgiref.headers" 289 134 (inC 11)
noncomputable def f161 : FuncData := fdm "Headers.setdefault" (.none) "cpy313.wsgiref.headers" 289 160 (inC 15)
noncomputable def f182 : FuncData := fdm "add_func_stats" (.none) "cpy313.pstats" 508 181 (top 7)
noncomputable def f189 : FuncData := fdm "add_callers" (.none) "cpy313.pstats" 508 188 (top 8)
noncomputable def f196 : FuncData := fdm "count_calls" (.none) "cpy313.pstats" 508 195 (top 9)
noncomputable def f206 : FuncData := fdm "ISNONTERMINAL" (.none) "cpy313.token" 548 205 (top 61)
noncomputable def f213 : FuncData := fdm "_law_numbers" (.none) "law_zd0017_01" 752 212 (top 63)
noncomputable def f220 : FuncData := fdm "_law_shape" (.none) "law_zd0017_01" 752 219 (top 64)
noncomputable def f227 : FuncData := fdm "_law_sign" (.none) "law_zd0017_01" 752 226 (top 65)
noncomputable def f234 : FuncData := fdm "_law_text" (.none) "law_zd0017_01" 752 233 (top 66)
noncomputable def f241 : FuncData := fdm "_law_words" (.none) "law_zd0017_01" 752 240 (top 67)
noncomputable def f248 : FuncData := fdm "_law_tree" (.none) "law_zd0017_01" 752 247 (top 68)
noncomputable def f255 : FuncData := fdm "_law_laid" (.none) "law_zd0017_01" 752 254 (top 69)
noncomputable def f262 : FuncData := fdm "_law_filled" (.none) "law_zd0017_01" 752 261 (top 70)
noncomputable def f269 : FuncData := fdm "_law_row" (.none) "law_zd0017_01" 752 268 (top 71)
noncomputable def f274 : FuncData := fdm "_law_symbols" (.none) "law_zd0017_01" 752 273 (top 72)
noncomputable def f279 : FuncData := fdm "_law_read" (.none) "law_zd0017_01" 752 278 (top 73)
noncomputable def f286 : FuncData := fdm "_law_steps" (.none) "law_zd0017_01" 752 285 (top 74)
noncomputable def f291 : FuncData := fdm "_law_states" (.none) "law_zd0017_01" 752 290 (top 75)
noncomputable def f296 : FuncData := fdm "law" (.none) "law_zd0017_01" 752 295 (top 76)
noncomputable def fp (a : Addr) (f : FuncData) : Addr × FuncData := (a, f)
noncomputable def fdN : List (Addr × FuncData) := [fp 63 f63, fp 70 f70, fp 118 f118, fp 135 f135, fp 161 f161, fp 182 f182, fp 189 f189, fp 196 f196, fp 206 f206, fp 213 f213, fp 220 f220, fp 227 f227, fp 234 f234, fp 241 f241, fp 248 f248, fp 255 f255, fp 262 f262, fp 269 f269, fp 274 f274, fp 279 f279, fp 286 f286, fp 291 f291, fp 296 f296]
noncomputable def stmtsOf (fd : FuncData) : List Stmt := match fd.body with | .stmts b => b | _ => []
noncomputable abbrev bdy (fd : FuncData) : List Stmt := stmtsOf fd
noncomputable abbrev scp (fd : FuncData) : Scope := fd.scope
noncomputable def gn (x : Str) (v : Option Value) : Str × Option Value := (x, v)
noncomputable def glN : List (Str × Option Value) := [gn "len" (none), gn "range" (none), gn "enumerate" (none), gn "max" (none), gn "isinstance" (none), gn "sum" (none), gn "zip" (none), gn "str" (none), gn "int" (none), gn "tuple" (none), gn "type" (none), gn "list" (none), gn "_name_disallowed_re" (some (.ref 43)), gn "_value_disallowed_re" (some (.ref 48)), gn "EXACT_TOKEN_TYPES" (some (.ref 197)), gn "Headers" (some (.ref 171)), gn "add_func_stats" (some (.ref 182)), gn "add_callers" (some (.ref 189)), gn "count_calls" (some (.ref 196)), gn "ISNONTERMINAL" (some (.ref 206)), gn "_law_numbers" (some (.ref 213)), gn "_law_shape" (some (.ref 220)), gn "_law_sign" (some (.ref 227)), gn "_law_text" (some (.ref 234)), gn "_law_words" (some (.ref 241)), gn "_law_tree" (some (.ref 248)), gn "_law_laid" (some (.ref 255)), gn "_law_filled" (some (.ref 262)), gn "_law_row" (some (.ref 269)), gn "_law_symbols" (some (.ref 274)), gn "_law_read" (some (.ref 279)), gn "_law_steps" (some (.ref 286)), gn "_law_states" (some (.ref 291)), gn "law" (some (.ref 296))]
noncomputable def glK : List Addr := [171, 182, 189, 196, 206, 213, 220, 227, 234, 241, 248, 255, 262, 269, 274, 279, 286, 291, 296]
noncomputable def tk (x : String) (a : Nat) (n : Int) (b : Nat) : String × Nat × Int × Nat := (x, a, n, b)
noncomputable def tkN : List (String × Nat × Int × Nat) := [tk "!" 648 54 644, tk "!=" 650 28 592, tk "%" 652 24 584, tk "%=" 654 40 616, tk "&" 656 19 574, tk "&=" 658 41 618, tk "(" 660 7 550, tk ")" 662 8 552, tk "*" 664 16 568, tk "**" 666 35 606, tk "**=" 668 46 628, tk "*=" 670 38 612, tk "+" 672 14 564, tk "+=" 674 36 608, tk "," 676 12 560, tk "-" 678 15 566, tk "-=" 680 37 610, tk "->" 682 51 638, tk "." 684 23 582, tk "..." 686 52 640, tk "/" 688 17 570, tk "//" 690 47 630, tk "//=" 692 48 632, tk "/=" 694 39 614, tk ":" 696 11 558, tk ":=" 698 53 642, tk ";" 700 13 562, tk "<" 702 20 576, tk "<<" 704 33 602, tk "<<=" 706 44 624, tk "<=" 708 29 594, tk "=" 710 22 580, tk "==" 712 27 590, tk ">" 714 21 578, tk ">=" 716 30 596, tk ">>" 717 34 604, tk ">>=" 718 45 626, tk "@" 719 49 634, tk "@=" 720 50 636, tk "[" 721 9 554, tk "]" 722 10 556, tk "^" 723 32 600, tk "^=" 724 43 622, tk "{" 725 25 586, tk "|" 726 18 572, tk "|=" 727 42 620, tk "}" 728 26 588, tk "~" 729 31 598]
noncomputable def tabA (P : Params) : Array DictEntry := (tkN.map fun x => { hash := PyData.keyHash P (Str.ofString x.1), key := .str (Str.ofString x.1) x.2.1, val := .int x.2.2.1 x.2.2.2 }).toArray
structure Pg (C : Cx) : Prop where
 hc : C.hc = 171
 ok : C.OK
 ns : (glN.map fun x => nsIn C.K mainGlobals x.1) = glN.map fun x => some x.2
 nt : ∃ t, nsIn C.K mainGlobals "NT_OFFSET" = some (some (.int 256 t))
 kp : (glK.all fun a => keepIn C.K (.ref a)) = true
 fd : (fdN.map fun x => fdOf C.K x.1) = fdN.map fun x => some x.2
 cd : (fdN.all fun x => codeIn C.K x.2.code x.2.qualname) = true
 tb : ∃ n, C.K.lookup 197 = some ⟨.type "dict", none, .dict (tabA C.w.params) n, #[]⟩
 pn : PatAt C.K 43 codeN
 pv : PatAt C.K 48 codeV
 d1 : C.K.lookup 56 = some ⟨.type "tuple", none, .seq #[.none], #[]⟩
 d2 : C.K.lookup 111 = some ⟨.type "tuple", none, .seq #[.none], #[]⟩
 hf : HF C
 hi : HI C
 m_init : HM C "__init__" 63
 m_convert_string_type : HM C "_convert_string_type" 70
 m_get : HM C "get" 118
 m_items : HM C "items" 135
 m_setdefault : HM C "setdefault" 161
theorem HM.at {C : Cx} {n : Str} {a : Addr} (b : Addr) (m : HM C n a) : HM (C.at b) n a := ⟨m.fn, m.t, m.k, m.n⟩
theorem Pg.at {C : Cx} (X : Pg C) (b : Addr) : Pg (C.at b) := ⟨X.hc, X.ok.b0 b, X.ns, X.nt, X.kp, X.fd, X.cd, X.tb, X.pn, X.pv, X.d1, X.d2, ⟨X.hf.ga, X.hf.gt, X.hf.cd, X.hf.no⟩, ⟨X.hi.sa, X.hi.po, X.hi.tk, X.hi.hd, X.hi.made⟩, X.m_init.at b, X.m_convert_string_type.at b, X.m_get.at b, X.m_items.at b, X.m_setdefault.at b⟩
theorem map_at {α β : Type} {l : List α} {f g : α → β} (h : l.map f = l.map g) {i : Nat} {x : α} (e : l[i]? = some x) : f x = g x := by
 have := congrArg (fun l => l[i]?) h
 rw [List.getElem?_map, List.getElem?_map, e] at this
 exact sinj this
noncomputable def csB (scope sc : Scope) (vars tg : List Str) (fr : List (Str × Nat)) : Bool :=
 scope.kind == .function && scope.names.all (fun x => !(x.2 == .cell) && (!(x.2 == .local) || scope.names.lookup x.1 == some .local) && (!(x.2 == .free) || (scope.names.lookup x.1 == some .free && sc.names.lookup x.1 == some .cell))) &&
 decide (tg ++ fr.map (·.1)).Nodup && tg.all (fun x => !(scope.names.lookup x == some .free)) && fr.all (fun p => vars[p.2]? == some p.1 && scope.names.lookup p.1 == some .free)
theorem csB_ok {scope sc : Scope} {vars tg : List Str} {fr : List (Str × Nat)} (h : csB scope sc vars tg fr = true) : CsOK scope sc vars tg fr := by
 unfold csB at h
 simp only [Bool.and_eq_true, List.all_eq_true, Bool.or_eq_true, Bool.not_eq_true', beq_iff_eq, decide_eq_true_eq, beq_eq_false_iff_ne, ne_eq] at h
 refine Xa h fun w1 h5 => ?_; refine Xa w1 fun w2 h4 => ?_; refine Xa w2 fun w3 h3 => ?_; refine Xa w3 fun h1 h2 => ?_
 exact ⟨h1, fun x hx => (h2 x hx).1.1, fun x hx hl => ((h2 x hx).1.2).elim (fun q => absurd hl q) id, fun x hx hl => ((h2 x hx).2).elim (fun q => absurd hl q) id, h3, h4, h5⟩
noncomputable def scB (sc : Scope) : Bool := sc.kind == .function && !sc.isCoroutine && !sc.isGenerator && sc.names.all fun x => !(x.2 == .free) && (!(x.2 == .cell) || sc.names.lookup x.1 == some .cell)
theorem scB_ok {sc : Scope} (h : scB sc = true) : ScOK sc := by
 unfold scB at h
 simp only [Bool.and_eq_true, List.all_eq_true, Bool.or_eq_true, Bool.not_eq_true', beq_iff_eq, beq_eq_false_iff_ne, ne_eq] at h
 refine Xa h fun w4 h4 => ?_; refine Xa w4 fun w5 h3 => ?_; refine Xa w5 fun h1 h2 => ?_
 exact ⟨h1, h2, h3, fun x hx => (h4 x hx).1, fun x hx hl => ((h4 x hx).2).elim (fun q => absurd hl q) id⟩
noncomputable def defB (fd : FuncData) : Bool := (match fd.body with | .stmts _ => true | _ => false) && fd.globals == mainGlobals && fd.builtins == builtinsNs && fd.closure.isEmpty && scB fd.scope
theorem def_at {C : Cx} (X : Pg C) {fa : Addr} {fd : FuncData} (h1 : fdOf C.K fa = some fd) (h2 : defB fd = true) (h3 : codeIn C.K fd.code fd.qualname = true) : DefAt C fa fd (bdy fd) := by
 unfold defB at h2
 simp only [Bool.and_eq_true, beq_iff_eq, List.isEmpty_iff] at h2
 refine Xa h2 fun g4 q5 => Xa g4 fun g3 q4 => Xa g3 fun g2 q3 => Xa g2 fun q1 q2 => ?_
 refine ⟨fdOf_eq h1, h3, ?_, q2, q3, q4, scB_ok q5⟩
 show fd.body = .stmts (stmtsOf fd)
 unfold stmtsOf
 cases hb : fd.body with
 | stmts b => rfl
 | _ => rw [hb] at q1; exact noft q1
section
variable {C : Cx} (X : Pg C)
include X
theorem Pg.nsx {x : Str} {v : Option Value} (i : Nat) (h : glN[i]? = some (x, v)) : nsIn C.K mainGlobals x = some v := map_at X.ns h
theorem Pg.kpx {a : Addr} (i : Nat) (h : glK[i]? = some a) : keepIn C.K (.ref a) = true := List.all_eq_true.mp X.kp a (List.mem_of_getElem? h)
theorem Pg.fdx {a : Addr} {fd : FuncData} (i : Nat) (h : fdN[i]? = some (a, fd)) : fdOf C.K a = some fd := map_at X.fd h
theorem Pg.cdx {a : Addr} {fd : FuncData} (i : Nat) (h : fdN[i]? = some (a, fd)) : codeIn C.K fd.code fd.qualname = true := List.all_eq_true.mp X.cd _ (List.mem_of_getElem? h)
theorem Pg.g_len : nsIn C.K mainGlobals "len" = some none := X.nsx 0 rfl
theorem Pg.g_range : nsIn C.K mainGlobals "range" = some none := X.nsx 1 rfl
theorem Pg.g_enumerate : nsIn C.K mainGlobals "enumerate" = some none := X.nsx 2 rfl
theorem Pg.g_max : nsIn C.K mainGlobals "max" = some none := X.nsx 3 rfl
theorem Pg.g_isinstance : nsIn C.K mainGlobals "isinstance" = some none := X.nsx 4 rfl
theorem Pg.g_sum : nsIn C.K mainGlobals "sum" = some none := X.nsx 5 rfl
theorem Pg.g_zip : nsIn C.K mainGlobals "zip" = some none := X.nsx 6 rfl
theorem Pg.g_str : nsIn C.K mainGlobals "str" = some none := X.nsx 7 rfl
theorem Pg.g_int : nsIn C.K mainGlobals "int" = some none := X.nsx 8 rfl
theorem Pg.g_tuple : nsIn C.K mainGlobals "tuple" = some none := X.nsx 9 rfl
theorem Pg.g_type : nsIn C.K mainGlobals "type" = some none := X.nsx 10 rfl
theorem Pg.g_list : nsIn C.K mainGlobals "list" = some none := X.nsx 11 rfl
theorem Pg.g_pn : nsIn C.K mainGlobals "_name_disallowed_re" = some (some (.ref 43)) := X.nsx 12 rfl
theorem Pg.g_pv : nsIn C.K mainGlobals "_value_disallowed_re" = some (some (.ref 48)) := X.nsx 13 rfl
theorem Pg.g_tab : nsIn C.K mainGlobals "EXACT_TOKEN_TYPES" = some (some (.ref 197)) := X.nsx 14 rfl
theorem Pg.g_hdr : nsIn C.K mainGlobals "Headers" = some (some (.ref C.hc)) := by rw [X.hc]; exact X.nsx 15 rfl
theorem Pg.f_add_func_stats : nsIn C.K mainGlobals "add_func_stats" = some (some (.ref 182)) := X.nsx 16 rfl
theorem Pg.k_add_func_stats : keepIn C.K (.ref 182) = true := X.kpx 1 rfl
theorem Pg.f_add_callers : nsIn C.K mainGlobals "add_callers" = some (some (.ref 189)) := X.nsx 17 rfl
theorem Pg.k_add_callers : keepIn C.K (.ref 189) = true := X.kpx 2 rfl
theorem Pg.f_count_calls : nsIn C.K mainGlobals "count_calls" = some (some (.ref 196)) := X.nsx 18 rfl
theorem Pg.k_count_calls : keepIn C.K (.ref 196) = true := X.kpx 3 rfl
theorem Pg.f_ISNONTERMINAL : nsIn C.K mainGlobals "ISNONTERMINAL" = some (some (.ref 206)) := X.nsx 19 rfl
theorem Pg.k_ISNONTERMINAL : keepIn C.K (.ref 206) = true := X.kpx 4 rfl
theorem Pg.f_law_numbers : nsIn C.K mainGlobals "_law_numbers" = some (some (.ref 213)) := X.nsx 20 rfl
theorem Pg.k_law_numbers : keepIn C.K (.ref 213) = true := X.kpx 5 rfl
theorem Pg.f_law_shape : nsIn C.K mainGlobals "_law_shape" = some (some (.ref 220)) := X.nsx 21 rfl
theorem Pg.k_law_shape : keepIn C.K (.ref 220) = true := X.kpx 6 rfl
theorem Pg.f_law_sign : nsIn C.K mainGlobals "_law_sign" = some (some (.ref 227)) := X.nsx 22 rfl
theorem Pg.k_law_sign : keepIn C.K (.ref 227) = true := X.kpx 7 rfl
theorem Pg.f_law_text : nsIn C.K mainGlobals "_law_text" = some (some (.ref 234)) := X.nsx 23 rfl
theorem Pg.k_law_text : keepIn C.K (.ref 234) = true := X.kpx 8 rfl
theorem Pg.f_law_words : nsIn C.K mainGlobals "_law_words" = some (some (.ref 241)) := X.nsx 24 rfl
theorem Pg.k_law_words : keepIn C.K (.ref 241) = true := X.kpx 9 rfl
theorem Pg.f_law_tree : nsIn C.K mainGlobals "_law_tree" = some (some (.ref 248)) := X.nsx 25 rfl
theorem Pg.k_law_tree : keepIn C.K (.ref 248) = true := X.kpx 10 rfl
theorem Pg.f_law_laid : nsIn C.K mainGlobals "_law_laid" = some (some (.ref 255)) := X.nsx 26 rfl
theorem Pg.k_law_laid : keepIn C.K (.ref 255) = true := X.kpx 11 rfl
theorem Pg.f_law_filled : nsIn C.K mainGlobals "_law_filled" = some (some (.ref 262)) := X.nsx 27 rfl
theorem Pg.k_law_filled : keepIn C.K (.ref 262) = true := X.kpx 12 rfl
theorem Pg.f_law_row : nsIn C.K mainGlobals "_law_row" = some (some (.ref 269)) := X.nsx 28 rfl
theorem Pg.k_law_row : keepIn C.K (.ref 269) = true := X.kpx 13 rfl
theorem Pg.f_law_symbols : nsIn C.K mainGlobals "_law_symbols" = some (some (.ref 274)) := X.nsx 29 rfl
theorem Pg.k_law_symbols : keepIn C.K (.ref 274) = true := X.kpx 14 rfl
theorem Pg.f_law_read : nsIn C.K mainGlobals "_law_read" = some (some (.ref 279)) := X.nsx 30 rfl
theorem Pg.k_law_read : keepIn C.K (.ref 279) = true := X.kpx 15 rfl
theorem Pg.f_law_steps : nsIn C.K mainGlobals "_law_steps" = some (some (.ref 286)) := X.nsx 31 rfl
theorem Pg.k_law_steps : keepIn C.K (.ref 286) = true := X.kpx 16 rfl
theorem Pg.f_law_states : nsIn C.K mainGlobals "_law_states" = some (some (.ref 291)) := X.nsx 32 rfl
theorem Pg.k_law_states : keepIn C.K (.ref 291) = true := X.kpx 17 rfl
theorem Pg.f_law : nsIn C.K mainGlobals "law" = some (some (.ref 296)) := X.nsx 33 rfl
theorem Pg.g_nt : ∃ t, nsIn C.K mainGlobals "NT_OFFSET" = some (some (.int 256 t)) := X.nt
theorem Pg.k_hdr : keepIn C.K (.ref C.hc) = true := by rw [X.hc]; exact X.kpx 0 rfl
end
theorem bm_split : BMeth "str" "split" "str.split" := ⟨PySem.F.plainAttrs_str, PySem.F.slot_str_split, PySem.F.type_str_split⟩
theorem bm_join : BMeth "str" "join" "str.join" := ⟨PySem.F.plainAttrs_str, PySem.F.slot_str_join, PySem.F.type_str_join⟩
theorem bm_lower : BMeth "str" "lower" "str.lower" := ⟨PySem.F.plainAttrs_str, PySem.F.slot_str_lower, PySem.F.type_str_lower⟩
theorem bm_index : BMeth "list" "index" "list.index" := ⟨PySem.F.plainAttrs_list, PySem.F.slot_list_index, PySem.F.type_list_index⟩
theorem bm_items : BMeth "dict" "items" "dict.items" := ⟨PySem.F.plainAttrs_dict, PySem.F.slot_dict_items, PySem.F.type_dict_items⟩
theorem bm_values : BMeth "dict" "values" "dict.values" := ⟨PySem.F.plainAttrs_dict, PySem.F.slot_dict_values, PySem.F.type_dict_values⟩
theorem bm_setdefault : BMeth "dict" "setdefault" "dict.setdefault" := ⟨PySem.F.plainAttrs_dict, PySem.F.slot_dict_setdefault, PySem.F.type_dict_setdefault⟩
section
set_option maxHeartbeats 800000
section
variable {C : Cx} {vars : List Str} {sc : Scope} {k : Nat}
theorem EOK_nt {pos : Pos} (X : Pg C) (hx : sc.names.lookup ("NT_OFFSET" : Str) = some NameKind.globalImplicit) : EOK C k sc vars (.Name "NT_OFFSET" pos) (kq (.int 256)) := by
 obtain ⟨t, e⟩ := X.g_nt
 exact EOK_glob X.ok e (fun _ _ => ⟨t, rfl⟩) hx dc
theorem eV {x : Str} {i : Nat} {p : Pos} (hi : vars[i]? = some x := by rfl) (h : sc.names.lookup x = some NameKind.local := by kernel_rfl) (h1 : (x == ("__classdict__" : Str)) = false := by decide) (h2 : (x == ("__debug__" : Str)) = false := by decide) : EOK C k sc vars (.Name x p) (fv_ i) := EOK_var hi (.inl h) h1 h2
theorem eW {x : Str} {i : Nat} {p : Pos} (hi : vars[i]? = some x := by rfl) (h : sc.names.lookup x = some NameKind.cell := by kernel_rfl) (h1 : (x == ("__classdict__" : Str)) = false := by decide) (h2 : (x == ("__debug__" : Str)) = false := by decide) : EOK C k sc vars (.Name x p) (fv_ i) := EOK_var hi (.inr (.inl h)) h1 h2
theorem SOK_never {st : Stmt} : SOK C k sc vars st (fun _ => none) := by
 constructor
 intro env A P W F vm own s σ σ' d Q G fu Rm S R hf hQ
 cases hf
theorem star_Constant {env : Env} {es : List Expr} {c} {kk} {p} : starEach (.Constant c kk p :: es) env = (false, eval (.Constant c kk p) env) :: starEach es env := rfl
theorem star_Name {env : Env} {es : List Expr} {c} {p} : starEach (.Name c p :: es) env = (false, eval (.Name c p) env) :: starEach es env := rfl
theorem star_Subscript {env : Env} {es : List Expr} {a} {b} {p} : starEach (.Subscript a b p :: es) env = (false, eval (.Subscript a b p) env) :: starEach es env := rfl
theorem star_Call {env : Env} {es : List Expr} {a} {b} {c} {p} : starEach (.Call a b c p :: es) env = (false, eval (.Call a b c p) env) :: starEach es env := rfl
theorem star_ListComp {env : Env} {es : List Expr} {a} {b} {c} {p} : starEach (.ListComp a b c p :: es) env = (false, eval (.ListComp a b c p) env) :: starEach es env := rfl
theorem pnl : Plain [] := ⟨fun _ => rfl, fun _ _ _ h => by cases h⟩
theorem plain_cons {e : Expr} {es : List Expr} (hs : ∀ env, starEach (e :: es) env = (false, eval e env) :: starEach es env) (h : Plain es) : Plain (e :: es) :=
 ⟨fun env => by rw [hs]; simpa using h.p env, fun env e' r he => by cases he; exact hs env⟩
theorem plC {e : Expr} {es : List Expr} (h : Plain es) (hs : ∀ env, starEach (e :: es) env = (false, eval e env) :: starEach es env := by exact fun _ => rfl) : Plain (e :: es) := plain_cons hs h
theorem swap_no {env : Env} {elt : Expr} {gens : List Comprehension} {scope : Scope} {pos px : Pos} {x : Str} {n : Nat} (G : EnvG sc env) (h : sc.names.lookup x = some .cell) : swapsWith (.ListComp elt gens scope pos) (some (.Name x px)) n env = pure false := by
 have e : env.kindOf x = some .cell := (G.kindOf x).trans h
 have : (env.kindOf x == some NameKind.local) = false := by rw [e]; decide
 show (pure (env.blockKind == ScopeKind.function && env.kindOf x == some NameKind.local && px.line == pos.line && !(scope.names.any fun (n, k) => n == x && (k == .local || k == .cell))) : Sem Bool) = _
 rw [this, Bool.and_false, Bool.false_and, Bool.false_and]
theorem swap_yes {env : Env} {elt : Expr} {gens : List Comprehension} {scope : Scope} {pos px : Pos} {x : Str} {n : Nat} (G : EnvG sc env) (h1 : (px.line == pos.line) = true) (h2 : sc.names.lookup x = some .local) (h3 : (scope.names.any fun (n, k) => n == x && (k == .local || k == .cell)) = false) : swapsWith (.ListComp elt gens scope pos) (some (.Name x px)) n env = pure true := by
 have e : env.kindOf x = some .local := (G.kindOf x).trans h2
 have e1 : (env.kindOf x == some NameKind.local) = true := by rw [e]; decide
 have e2 : (env.blockKind == ScopeKind.function) = true := by unfold Env.blockKind; rw [G.kind]; rfl
 show (pure (env.blockKind == ScopeKind.function && env.kindOf x == some NameKind.local && px.line == pos.line && !(scope.names.any fun (n, k) => n == x && (k == .local || k == .cell))) : Sem Bool) = _
 rw [e1, e2, h1, h3]; rfl
end
theorem tab_lit (P : Params) (l : List (String × Nat × Int × Nat)) : KeysLit P (l.map fun x => { hash := PyData.keyHash P (Str.ofString x.1), key := .str (Str.ofString x.1) x.2.1, val := .int x.2.2.1 x.2.2.2 }) := by
 induction l with
 | nil => trivial
 | cons x l ih => exact ⟨⟨_, _, rfl, rfl⟩, ih⟩
theorem Pg.tabk {C : Cx} (X : Pg C) : TabK C 197 (tabA C.w.params) := ⟨X.tb, tab_lit _ _, by decide⟩
theorem Pg.pats {C : Cx} (X : Pg C) : ∀ a ∈ ([43, 48] : List Addr), ∃ code, (code = codeN ∨ code = codeV) ∧ PatAt C.K a code := by
 intro a ha
 rcases List.mem_cons.mp ha with rfl | ha
 · exact ⟨codeN, .inl rfl, X.pn⟩
 · rcases List.mem_cons.mp ha with rfl | ha
   · exact ⟨codeV, .inr rfl, X.pv⟩
   · cases ha
noncomputable def f_ISNONTERMINAL : FnF :=
 (fSeq (fRet (fB (fCmp (cmpD .GtE) (fv_ 0) (kq (.int 256))))) fBNil)
theorem B_ISNONTERMINAL {C : Cx} (X : Pg C) {k : Nat} : BOK C k (scp f206) ["x"] (bdy f206) (f_ISNONTERMINAL ) := by
 conv in bdy _ => whnf
 exact (bcs (SOK_ret (EOK_cmp (cmp_ok _) eV (EOK_nt X kr) rfl)) bnl)
noncomputable def f_law_shape : FnF :=
 (fSeq (fAsg 1 (fTup (fC_ (kq (.int 0)) (fC_ (fTup (fC_ (kq (.int 0)) (fC_ (kq (.int 1)) fnl))) (fC_ (fTup (fC_ (kq (.int 1)) (fC_ (kq (.int 0)) fnl))) (fC_ (fTup (fC_ (fTup (fC_ (kq (.int 0)) (fC_ (kq (.int 1)) fnl))) (fC_ (kq (.int 2)) fnl))) (fC_ (fTup (fC_ (fTup (fC_ (kq (.int 0)) (fC_ (kq (.int 2)) fnl))) (fC_ (kq (.int 1)) fnl))) (fC_ (fTup (fC_ (fTup (fC_ (kq (.int 1)) (fC_ (kq (.int 0)) fnl))) (fC_ (kq (.int 2)) fnl))) (fC_ (fTup (fC_ (fTup (fC_ (kq (.int 1)) (fC_ (kq (.int 2)) fnl))) (fC_ (kq (.int 0)) fnl))) (fC_ (fTup (fC_ (fTup (fC_ (kq (.int 2)) (fC_ (kq (.int 0)) fnl))) (fC_ (kq (.int 1)) fnl))) (fC_ (fTup (fC_ (fTup (fC_ (kq (.int 2)) (fC_ (kq (.int 1)) fnl))) (fC_ (kq (.int 0)) fnl))) (fC_ (fTup (fC_ (kq (.int 0)) (fC_ (fTup (fC_ (kq (.int 1)) (fC_ (kq (.int 2)) fnl))) fnl))) (fC_ (fTup (fC_ (kq (.int 0)) (fC_ (fTup (fC_ (kq (.int 2)) (fC_ (kq (.int 1)) fnl))) fnl))) (fC_ (fTup (fC_ (kq (.int 1)) (fC_ (fTup (fC_ (kq (.int 0)) (fC_ (kq (.int 2)) fnl))) fnl))) (fC_ (fTup (fC_ (kq (.int 1)) (fC_ (fTup (fC_ (kq (.int 2)) (fC_ (kq (.int 0)) fnl))) fnl))) (fC_ (fTup (fC_ (kq (.int 2)) (fC_ (fTup (fC_ (kq (.int 0)) (fC_ (kq (.int 1)) fnl))) fnl))) (fC_ (fTup (fC_ (kq (.int 2)) (fC_ (fTup (fC_ (kq (.int 1)) (fC_ (kq (.int 0)) fnl))) fnl))) fnl))))))))))))))))) (fSeq (fRet (fSub (fv_ 1) (fBin .Mod (fv_ 0) (kq (.int 15))))) fBNil))
theorem B_law_shape {C : Cx} (X : Pg C) {k : Nat} : BOK C k (scp f220) ["number", "shapes"] (bdy f220) (f_law_shape ) := by
 conv in bdy _ => whnf
 exact (bcs (SOK_asg rfl inL (EOK_tup (lC eIt (lC (EOK_tup (lC eIt (lC eIt lnl))) (lC (EOK_tup (lC eIt (lC eIt lnl))) (lC (EOK_tup (lC (EOK_tup (lC eIt (lC eIt lnl))) (lC eIt lnl))) (lC (EOK_tup (lC (EOK_tup (lC eIt (lC eIt lnl))) (lC eIt lnl))) (lC (EOK_tup (lC (EOK_tup (lC eIt (lC eIt lnl))) (lC eIt lnl))) (lC (EOK_tup (lC (EOK_tup (lC eIt (lC eIt lnl))) (lC eIt lnl))) (lC (EOK_tup (lC (EOK_tup (lC eIt (lC eIt lnl))) (lC eIt lnl))) (lC (EOK_tup (lC (EOK_tup (lC eIt (lC eIt lnl))) (lC eIt lnl))) (lC (EOK_tup (lC eIt (lC (EOK_tup (lC eIt (lC eIt lnl))) lnl))) (lC (EOK_tup (lC eIt (lC (EOK_tup (lC eIt (lC eIt lnl))) lnl))) (lC (EOK_tup (lC eIt (lC (EOK_tup (lC eIt (lC eIt lnl))) lnl))) (lC (EOK_tup (lC eIt (lC (EOK_tup (lC eIt (lC eIt lnl))) lnl))) (lC (EOK_tup (lC eIt (lC (EOK_tup (lC eIt (lC eIt lnl))) lnl))) (lC (EOK_tup (lC eIt (lC (EOK_tup (lC eIt (lC eIt lnl))) lnl))) lnl)))))))))))))))) (fun _ _ => rfl)) (bcs (SOK_ret (EOK_sub eV (EOK_bin eV eIt) (fun _ _ => rfl))) bnl))
noncomputable def f_law_sign : FnF :=
 (fSeq (fAsg 2 (fMeth "str" gSplit (fun σ => some (.str "( ) [ ] : , ; + - * / | & < > = . % { } == != <= >= ~ ^ << >> ** += -= *= /= %= &= |= ^= <<= >>= **= // //=", σ)) (fC_ (kq (.str " ")) fnl))) (fSeq (fRet (fSub (fv_ 2) (fBin .Add (fBin .Mult (kq (.int 15)) (fv_ 1)) (fBin .Mod (fBin .FloorDiv (fv_ 0) (kq (.int 15))) (kq (.int 12)))))) fBNil))
theorem B_law_sign {C : Cx} (X : Pg C) {k : Nat} : BOK C k (scp f227) ["number", "k", "signs"] (bdy f227) (f_law_sign ) := by
 conv in bdy _ => whnf
 exact (bcs (SOK_asg rfl inL (EOK_meth bm_split (fun _ _ _ h => split_ok h) EOK_str (lC EOK_str lnl) (plC pnl) (fun _ _ h => by cases h; exact pnl) dc (fun _ => rfl) rfl) (fun _ _ => rfl)) (bcs (SOK_ret (EOK_sub eV (EOK_bin (EOK_bin eIt eV) (EOK_bin (EOK_bin eV eIt) eIt)) (fun _ _ => rfl))) bnl))
noncomputable def f_law_text (g_law_text : List D → Option D) : FnF :=
 (fSeq (fIf (fTru (fCall gIsTup (fC_ (fv_ 0) (fC_ (kq (.typ "tuple")) fnl)))) (fSeq (fRet (fBin .Add (fBin .Add (fBin .Add (kq (.str "@ ")) (fCall g_law_text (fC_ (fSub (fv_ 0) (kq (.int 0))) (fC_ (fv_ 1) fnl)))) (kq (.str " "))) (fCall g_law_text (fC_ (fSub (fv_ 0) (kq (.int 1))) (fC_ (fv_ 1) fnl))))) fBNil) fBNil) (fSeq (fRet (fSub (fv_ 1) (fv_ 0))) fBNil))
theorem B_law_text {C : Cx} (X : Pg C) {k : Nat} (g_law_text : List D → Option D) (h_law_text : ∀ ds d, g_law_text ds = some d → FnOK C k (.ref 234) ds d) : BOK C k (scp f234) ["tree", "words"] (bdy f234) (f_law_text g_law_text) := by
 conv in bdy _ => whnf
 exact (bcs (SOK_if (TOK_val (EOK_callB X.ok (fun _ _ h => isTup_ok h) (lC eV (lC (EOK_btyp X.ok kr X.g_tuple kr dc dc) lnl)) kr X.g_isinstance kr dc dc (plC (plC pnl)) (plC pnl)) (fun _ _ => rfl)) (bcs (SOK_ret (EOK_bin (EOK_bin (EOK_bin EOK_str (EOK_callF X.ok h_law_text (lC (EOK_sub eV eIt (fun _ _ => rfl)) (lC eV lnl)) kr X.f_law_text X.k_law_text dc (plC (plC pnl)) (plC pnl))) EOK_str) (EOK_callF X.ok h_law_text (lC (EOK_sub eV eIt (fun _ _ => rfl)) (lC eV lnl)) kr X.f_law_text X.k_law_text dc (plC (plC pnl)) (plC pnl)))) bnl) bnl) (bcs (SOK_ret (EOK_sub eV eV (fun _ _ => rfl))) bnl))
noncomputable def f_law_words : FnF :=
 (fSeq (fNew 2 fnl) (fSeq (fAsg 3 (kq (.int 4))) (fSeq (fForS (fRange (kq (.int 7))) (gName 4) (fSeq (fAsg 5 (fBin .Mod (fBin .FloorDiv (fv_ 0) (fBin .Pow (kq (.int 4)) (fv_ 4))) (kq (.int 4)))) (fSeq (fIf (fAnd (fCmp (cmpD .Lt) (fv_ 5) (kq (.int 3))) (fAnd (fCmp (cmpD .Gt) (fv_ 3) (kq (.int 0))) fAndN)) (fSeq (fAppend 2 (fSub (fv_ 1) (fv_ 5))) (fSeq (fAug 3 .Sub (kq (.int 1))) fBNil)) (fSeq (fAppend 2 (fSub (kq (.str "aBcDeFg")) (fv_ 4))) fBNil)) fBNil))) (fSeq (fRet (fv_ 2)) fBNil))))
theorem B_law_words {C : Cx} (X : Pg C) {k : Nat} : BOK C k (scp f241) ["number", "signs", "words", "left", "k", "figure"] (bdy f241) (f_law_words ) := by
 conv in bdy _ => whnf
 exact (bcs (SOK_new rfl inL lnl) (bcs (SOK_asg rfl inL eIt (fun _ _ => rfl)) (bcs (SOK_for (IOK_range X.ok eIt kr X.g_range (fun _ => star_Constant)) (GOK_name rfl inL) (bcs (SOK_asg rfl inL (EOK_bin (EOK_bin eV (EOK_bin eIt eV)) eIt) (fun _ _ => rfl)) (bcs (SOK_if (TOK_bool (AOK_and (TOK_cmp (cmp_ok _) eV eIt rfl) (AOK_and (TOK_cmp (cmp_ok _) eV eIt rfl) AOK_andN))) (bcs (SOK_append rfl ⟨inL, dc, dc⟩ (EOK_sub eV eV (fun _ _ => rfl)) (plC pnl) (fun _ => rfl) rfl (fun _ => rfl)) (bcs (SOK_aug rfl inL dc eIt) bnl)) (bcs (SOK_append rfl ⟨inL, dc, dc⟩ (EOK_sub EOK_str eV (fun _ _ => rfl)) (plC pnl) (fun _ => rfl) rfl (fun _ => rfl)) bnl)) bnl)) (fun _ _ => rfl)) (bcs (SOK_ret eV) bnl))))
noncomputable def f_law_tree : FnF :=
 (fSeq (fNew 1 (fC_ (kq (.int 0)) (fC_ (kq (.int 1)) (fC_ (kq (.int 2)) (fC_ (kq (.int 3)) (fC_ (kq (.int 4)) (fC_ (kq (.int 5)) (fC_ (kq (.int 6)) fnl)))))))) (fSeq (fWhile (fCmp (cmpD .Gt) (fCall gLen (fC_ (fv_ 1) fnl)) (kq (.int 1))) (fSeq (fAsg 2 (fBin .Mod (fv_ 0) (fBin .Sub (fCall gLen (fC_ (fv_ 1) fnl)) (kq (.int 1))))) (fSeq (fAsg 0 (fBin .FloorDiv (fv_ 0) (fBin .Sub (fCall gLen (fC_ (fv_ 1) fnl)) (kq (.int 1))))) (fSeq (fAsg 1 (fBin .Add (fBin .Add (fSlice (fv_ 1) fNoPart (fPart (fv_ 2))) (fLst (fC_ (fTup (fC_ (fSub (fv_ 1) (fv_ 2)) (fC_ (fSub (fv_ 1) (fBin .Add (fv_ 2) (kq (.int 1)))) fnl))) fnl))) (fSlice (fv_ 1) (fPart (fBin .Add (fv_ 2) (kq (.int 2)))) fNoPart))) fBNil))) 100000) (fSeq (fRet (fSub (fv_ 1) (kq (.int 0)))) fBNil)))
theorem B_law_tree {C : Cx} (X : Pg C) {k : Nat} : BOK C k (scp f248) ["number", "trees", "place"] (bdy f248) (f_law_tree ) := by
 conv in bdy _ => whnf
 exact (bcs (SOK_new rfl inL (lC eIt (lC eIt (lC eIt (lC eIt (lC eIt (lC eIt (lC eIt lnl)))))))) (bcs (SOK_while (TOK_cmp (cmp_ok _) (EOK_callB X.ok (fun _ _ h => len_ok h) (lC eV lnl) kr X.g_len kr dc dc (plC pnl) pnl) eIt rfl) (bcs (SOK_asg rfl inL (EOK_bin eV (EOK_bin (EOK_callB X.ok (fun _ _ h => len_ok h) (lC eV lnl) kr X.g_len kr dc dc (plC pnl) pnl) eIt)) (fun _ _ => rfl)) (bcs (SOK_asg rfl inL (EOK_bin eV (EOK_bin (EOK_callB X.ok (fun _ _ h => len_ok h) (lC eV lnl) kr X.g_len kr dc dc (plC pnl) pnl) eIt)) (fun _ _ => rfl)) (bcs (SOK_asg rfl inL (EOK_bin (EOK_bin (EOK_slice eV POK_none (POK_some eV)) (EOK_lst (lC (EOK_tup (lC (EOK_sub eV eV (fun _ _ => rfl)) (lC (EOK_sub eV (EOK_bin eV eIt) (fun _ _ => rfl)) lnl))) lnl))) (EOK_slice eV (POK_some (EOK_bin eV eIt)) POK_none)) (fun _ _ => rfl)) bnl))) 100000) (bcs (SOK_ret (EOK_sub eV eIt (fun _ _ => rfl))) bnl)))
noncomputable def f_law_row (g_law_row : List D → Option D) : FnF :=
 (fSeq (fAsg 1 (fBin .Add (fBin .Mult (fLst (fC_ (fNeg (kq (.int 1))) fnl)) (fCall gLen (fC_ (fSub (fv_ 0) (kq (.int 1))) fnl))) (fLst (fC_ (fSub (fv_ 0) (kq (.int 0))) fnl)))) (fSeq (fForS (fItL (fun _ => true) (fSub (fv_ 0) (kq (.int 1)))) (gName 2) (fSeq (fAsg 1 (fBin .Add (fv_ 1) (fCall g_law_row (fC_ (fv_ 2) fnl)))) fBNil)) (fSeq (fRet (fv_ 1)) fBNil)))
theorem B_law_row {C : Cx} (X : Pg C) {k : Nat} (g_law_row : List D → Option D) (h_law_row : ∀ ds d, g_law_row ds = some d → FnOK C k (.ref 269) ds d) : BOK C k (scp f269) ["value", "row", "part"] (bdy f269) (f_law_row g_law_row) := by
 conv in bdy _ => whnf
 exact (bcs (SOK_asg rfl inL (EOK_bin (EOK_bin (EOK_lst (lC (EOK_neg eIt) lnl)) (EOK_callB X.ok (fun _ _ h => len_ok h) (lC (EOK_sub eV eIt (fun _ _ => rfl)) lnl) kr X.g_len kr dc dc (plC pnl) pnl)) (EOK_lst (lC (EOK_sub eV eIt (fun _ _ => rfl)) lnl))) (fun _ _ => rfl)) (bcs (SOK_for (IOK_list (EOK_sub eV eIt (fun _ _ => rfl))) (GOK_name rfl inL) (bcs (SOK_asg rfl inL (EOK_bin eV (EOK_callF X.ok h_law_row (lC eV lnl) kr X.f_law_row X.k_law_row dc (plC pnl) pnl)) (fun _ _ => rfl)) bnl) (fun _ _ => rfl)) (bcs (SOK_ret eV) bnl)))
noncomputable def f_law_numbers : FnF :=
 (fSeq (fNew 1 (fC_ (kq (.int 144)) (fC_ (kq (.int 30)) (fC_ (kq (.int 317)) (fC_ (kq (.int 13562)) (fC_ (kq (.int 127)) fnl)))))) (fSeq (fForS (fEnum (fSlice (fv_ 0) fNoPart (fPart (kq (.int 63))))) (gTup [2, 3]) (fSeq (fAugSub 1 .Add (fBin .Mod (fv_ 2) (kq (.int 5))) (fBin .Mod (fv_ 3) (fBin .Pow (kq (.int 10)) (kq (.int 6))))) fBNil)) (fSeq (fRet (fv_ 1)) fBNil)))
theorem B_law_numbers {C : Cx} (X : Pg C) {k : Nat} : BOK C k (scp f213) ["script", "numbers", "k", "x"] (bdy f213) (f_law_numbers ) := by
 conv in bdy _ => whnf
 exact (bcs (SOK_new rfl inL (lC eIt (lC eIt (lC eIt (lC eIt (lC eIt lnl)))))) (bcs (SOK_for (IOK_enum X.ok (EOK_slice eV POK_none (POK_some eIt)) kr X.g_enumerate (fun _ => star_Subscript)) (GOK_tup (.cons rfl inL (.cons rfl inL .nil))) (bcs (SOK_augSub rfl ⟨inL, dc, dc⟩ (EOK_bin eV eIt) (EOK_bin eV (EOK_bin eIt eIt)) (fun _ _ _ => rfl)) bnl) (fun _ _ => rfl)) (bcs (SOK_ret eV) bnl)))
noncomputable def f_law_laid (g_law_filled : List D → List D → Option (D × List D)) : FnF :=
 (fSeq (fAsg 4 (fSub (fv_ 0) (kq (.int 0)))) (fSeq (fAsg 5 (fBin .Add (fSub (fv_ 0) (kq (.int 1))) (fLst (fC_ (fv_ 1) fnl)))) (fSeq (fIf (fOr (fCmp (cmpD .NotIn) (fv_ 4) (fv_ 2)) (fOr (fCmp (cmpD .Gt) (fSub (fSub (fv_ 2) (fv_ 4)) (kq (.int 0))) (fCall gLen (fC_ (fv_ 5) fnl))) fOrN)) (fSeq (fRet (fTup (fC_ (fv_ 4) (fC_ (fv_ 5) fnl)))) fBNil) fBNil) (fSeq (fAppend 3 (fv_ 4)) (fSeq (fRet (fIO 3 g_law_filled (fC_ (fSub (fSub (fv_ 2) (fv_ 4)) (kq (.int 1))) (fC_ (fv_ 5) (fC_ (fv_ 2) (fLast 3)))))) fBNil)))))
theorem B_law_laid {C : Cx} (X : Pg C) {k : Nat} (g_law_filled : List D → List D → Option (D × List D)) (h_law_filled : ∀ ds xs d xs', g_law_filled ds xs = some (d, xs') → FnIO C k (.ref 262) false ds (.ownL true xs) (.ownL true xs') d) : BOK C k (scp f255) ["left", "right", "rules", "done", "place", "parts"] (bdy f255) (f_law_laid g_law_filled) := by
 conv in bdy _ => whnf
 exact (bcs (SOK_asg rfl inL (EOK_sub eV eIt (fun _ _ => rfl)) (fun _ _ => rfl)) (bcs (SOK_asg rfl inL (EOK_bin (EOK_sub eV eIt (fun _ _ => rfl)) (EOK_lst (lC eV lnl))) (fun _ _ => rfl)) (bcs (SOK_if (TOK_bool (AOK_or (TOK_cmp (cmp_ok _) eV eV rfl) (AOK_or (TOK_cmp (cmp_ok _) (EOK_sub (EOK_sub eV eV (fun _ _ => rfl)) eIt (fun _ _ => rfl)) (EOK_callB X.ok (fun _ _ h => len_ok h) (lC eV lnl) kr X.g_len kr dc dc (plC pnl) pnl) rfl) AOK_orN))) (bcs (SOK_ret (EOK_tup (lC eV (lC eV lnl)))) bnl) bnl) (bcs (SOK_append rfl ⟨inL, dc, dc⟩ eV (plC pnl) (fun _ => rfl) rfl (fun _ => rfl)) (bcs (SOK_ret (EOK_callIO X.ok rfl h_law_filled (LOKo_cons (EOK_sub (EOK_sub eV eV (fun _ _ => rfl)) eIt (fun _ _ => rfl)) (LOKo_cons eV (LOKo_cons eV (LOKo_last rfl ⟨inL, dc, dc⟩) (fun _ => star_Name)) (fun _ => star_Name)) (fun _ => star_Subscript)) kr X.f_law_filled X.k_law_filled dc (plC (plC (plC (plC pnl)))) (plC (plC (plC pnl))))) bnl)))))
noncomputable def f_law_filled (g_law_filled : List D → List D → Option (D × List D)) (g_law_laid : List D → List D → Option (D × List D)) : FnF :=
 (fSeq (fIf (fTru (fCall gIsTup (fC_ (fv_ 0) (fC_ (kq (.typ "tuple")) fnl)))) (fSeq (fRet (fIO 3 g_law_laid (fC_ (fIO 3 g_law_filled (fC_ (fSub (fv_ 0) (kq (.int 0))) (fC_ (fv_ 1) (fC_ (fv_ 2) (fLast 3))))) (fC_ (fIO 3 g_law_filled (fC_ (fSub (fv_ 0) (kq (.int 1))) (fC_ (fv_ 1) (fC_ (fv_ 2) (fLast 3))))) (fC_ (fv_ 2) (fLast 3)))))) fBNil) fBNil) (fSeq (fRet (fSub (fv_ 1) (fv_ 0))) fBNil))
theorem B_law_filled {C : Cx} (X : Pg C) {k : Nat} (g_law_filled : List D → List D → Option (D × List D)) (g_law_laid : List D → List D → Option (D × List D)) (h_law_filled : ∀ ds xs d xs', g_law_filled ds xs = some (d, xs') → FnIO C k (.ref 262) false ds (.ownL true xs) (.ownL true xs') d) (h_law_laid : ∀ ds xs d xs', g_law_laid ds xs = some (d, xs') → FnIO C k (.ref 255) false ds (.ownL true xs) (.ownL true xs') d) : BOK C k (scp f262) ["tree", "parts", "rules", "done"] (bdy f262) (f_law_filled g_law_filled g_law_laid) := by
 conv in bdy _ => whnf
 exact (bcs (SOK_if (TOK_val (EOK_callB X.ok (fun _ _ h => isTup_ok h) (lC eV (lC (EOK_btyp X.ok kr X.g_tuple kr dc dc) lnl)) kr X.g_isinstance kr dc dc (plC (plC pnl)) (plC pnl)) (fun _ _ => rfl)) (bcs (SOK_ret (EOK_callIO X.ok rfl h_law_laid (LOKo_cons (EOK_callIO X.ok rfl h_law_filled (LOKo_cons (EOK_sub eV eIt (fun _ _ => rfl)) (LOKo_cons eV (LOKo_cons eV (LOKo_last rfl ⟨inL, dc, dc⟩) (fun _ => star_Name)) (fun _ => star_Name)) (fun _ => star_Subscript)) kr X.f_law_filled X.k_law_filled dc (plC (plC (plC (plC pnl)))) (plC (plC (plC pnl)))) (LOKo_cons (EOK_callIO X.ok rfl h_law_filled (LOKo_cons (EOK_sub eV eIt (fun _ _ => rfl)) (LOKo_cons eV (LOKo_cons eV (LOKo_last rfl ⟨inL, dc, dc⟩) (fun _ => star_Name)) (fun _ => star_Name)) (fun _ => star_Subscript)) kr X.f_law_filled X.k_law_filled dc (plC (plC (plC (plC pnl)))) (plC (plC (plC pnl)))) (LOKo_cons eV (LOKo_last rfl ⟨inL, dc, dc⟩) (fun _ => star_Name)) (fun _ => star_Call)) (fun _ => star_Call)) kr X.f_law_laid X.k_law_laid dc (plC (plC (plC (plC pnl)))) (plC (plC (plC pnl))))) bnl) bnl) (bcs (SOK_ret (EOK_sub eV eV (fun _ _ => rfl))) bnl))
noncomputable def f_count_calls : FnF :=
 (fSeq (fAsg 1 (kq (.int 0))) (fSeq (fForS (fValues (fv_ 0)) (gName 2) (fSeq (fAug 1 .Add (fv_ 2)) fBNil)) (fSeq (fRet (fv_ 1)) fBNil)))
theorem B_count_calls {C : Cx} (X : Pg C) {k : Nat} : BOK C k (scp f196) ["callers", "nc", "calls"] (bdy f196) (f_count_calls ) := by
 conv in bdy _ => whnf
 exact (bcs (SOK_asg rfl inL eIt (fun _ _ => rfl)) (bcs (SOK_for (IOK_values bm_values eV (fun _ => rfl) rfl) (GOK_name rfl inL) (bcs (SOK_aug rfl inL dc eV) bnl) (fun _ _ => rfl)) (bcs (SOK_ret eV) bnl)))
noncomputable def f_add_func_stats (g_add_callers : List D → Option D) : FnF :=
 (fSeq (fAsgT [2, 3, 4, 5, 6] (fv_ 1)) (fSeq (fAsgT [7, 8, 9, 10, 11] (fv_ 0)) (fSeq (fRet (fTup (fC_ (fBin .Add (fv_ 2) (fv_ 7)) (fC_ (fBin .Add (fv_ 3) (fv_ 8)) (fC_ (fBin .Add (fv_ 4) (fv_ 9)) (fC_ (fBin .Add (fv_ 5) (fv_ 10)) (fC_ (fCall g_add_callers (fC_ (fv_ 11) (fC_ (fv_ 6) fnl))) fnl))))))) fBNil)))
theorem B_add_func_stats {C : Cx} (X : Pg C) {k : Nat} (g_add_callers : List D → Option D) (h_add_callers : ∀ ds d, g_add_callers ds = some d → FnOK C k (.ref 189) ds d) : BOK C k (scp f182) ["target", "source", "cc", "nc", "tt", "ct", "callers", "t_cc", "t_nc", "t_tt", "t_ct", "t_callers"] (bdy f182) (f_add_func_stats g_add_callers) := by
 conv in bdy _ => whnf
 exact (bcs (SOK_asgT (.cons rfl inL (.cons rfl inL (.cons rfl inL (.cons rfl inL (.cons rfl inL .nil))))) eV (fun _ _ => ⟨rfl, rfl⟩)) (bcs (SOK_asgT (.cons rfl inL (.cons rfl inL (.cons rfl inL (.cons rfl inL (.cons rfl inL .nil))))) eV (fun _ _ => ⟨rfl, rfl⟩)) (bcs (SOK_ret (EOK_tup (lC (EOK_bin eV eV) (lC (EOK_bin eV eV) (lC (EOK_bin eV eV) (lC (EOK_bin eV eV) (lC (EOK_callF X.ok h_add_callers (lC eV (lC eV lnl)) kr X.f_add_callers X.k_add_callers dc (plC (plC pnl)) (plC pnl)) lnl))))))) bnl)))
noncomputable def f_add_callers : FnF :=
 (fSeq (fNewE 2 (.ownT [])) (fSeq (fForS (fItems (fv_ 0)) (gTup [3, 4]) (fSeq (fSetT 2 (fv_ 4) (fv_ 3)) fBNil)) (fSeq (fForS (fItems (fv_ 1)) (gTup [3, 4]) (fSeq (fIf (fInT 2 (fv_ 3)) (fSeq (fIf (fTru (fCall gIsTup (fC_ (fv_ 4) (fC_ (kq (.typ "tuple")) fnl)))) (fSeq (fun _ => none) fBNil) (fSeq (fun _ => none) fBNil)) fBNil) (fSeq (fSetT 2 (fv_ 4) (fv_ 3)) fBNil)) fBNil)) (fSeq (fRet (fv_ 2)) fBNil))))
theorem B_add_callers {C : Cx} (X : Pg C) {k : Nat} : BOK C k (scp f189) ["target", "source", "new_callers", "func", "caller"] (bdy f189) (f_add_callers ) := by
 conv in bdy _ => whnf
 exact (bcs (SOK_newE rfl inL (.inr rfl)) (bcs (SOK_for (IOK_items bm_items eV (fun _ => rfl) rfl) (GOK_tup (.cons rfl inL (.cons rfl inL .nil))) (bcs (SOK_setT rfl ⟨inL, dc, dc⟩ eV eV (fun _ => rfl)) bnl) (fun _ _ => rfl)) (bcs (SOK_for (IOK_items bm_items eV (fun _ => rfl) rfl) (GOK_tup (.cons rfl inL (.cons rfl inL .nil))) (bcs (SOK_if (TOK_inT rfl ⟨inL, dc, dc⟩ eV rfl) (bcs (SOK_if (TOK_val (EOK_callB X.ok (fun _ _ h => isTup_ok h) (lC eV (lC (EOK_btyp X.ok kr X.g_tuple kr dc dc) lnl)) kr X.g_isinstance kr dc dc (plC (plC pnl)) (plC pnl)) (fun _ _ => rfl)) (bcs SOK_never bnl) (bcs SOK_never bnl)) bnl) (bcs (SOK_setT rfl ⟨inL, dc, dc⟩ eV eV (fun _ => rfl)) bnl)) bnl) (fun _ _ => rfl)) (bcs (SOK_ret eV) bnl))))
noncomputable def f_law_symbols (PP : Params) (g_get : List D → List D → Option D) : FnF :=
 (fSeq (fRet (fMk .list (fLC (fItL (fun _ => true) (fMeth "str" gSplit (fv_ 0) (fC_ (kq (.str " ")) fnl))) ["word"] [("names", 1)] (gName 0) fAndN (fEmit (fIf (fInTop (tabA PP) (fv_ 0)) (fItemTop (tabA PP) (fv_ 0)) (fBin .Add (kq (.int 256)) (fCall gInt (fC_ (fHmeth g_get (fv_ 1) (fC_ (fv_ 0) fnl)) fnl))))) []))) fBNil)
theorem B_law_symbols {C : Cx} (X : Pg C) {k : Nat} (g_get : List D → List D → Option D) (h_get : ∀ xs ds d, g_get xs ds = some d → FnOK C k (.ref 118) (.hdr xs :: ds) d) : BOK C k (scp f274) ["text", "names"] (bdy f274) (f_law_symbols C.w.params g_get) := by
 conv in bdy _ => whnf
 exact (bcs (SOK_ret (EOK_lcomp (tg := ["word"]) (fr := [("names", 1)]) (csB_ok kr) (IOK_list (EOK_meth bm_split (fun _ _ _ h => split_ok h) eV (lC EOK_str lnl) (plC pnl) (fun _ _ h => by cases h; exact pnl) dc (fun _ => rfl) rfl)) (GOK_name rfl inL) TsOK_nil (EOK_if (TOK_inTop X.ok X.tabk eV rfl kr X.g_tab dc) (EOK_itemTop X.ok X.tabk eV kr X.g_tab dc (fun _ _ => rfl)) (EOK_bin (EOK_nt X kr) (EOK_callT X.ok (fun _ _ h => int_ok h) (lC (EOK_hmeth X.ok X.hf X.m_get h_get eW (lC eV lnl) (plC pnl) pnl (fun _ => ⟨_, by with_unfolding_all rfl⟩)) lnl) kr X.g_int kr dc dc (plC pnl) pnl))) (fun _ _ => rfl))) bnl)
noncomputable def f_law_read (g_ISNONTERMINAL : List D → Option D) (g_get : List D → List D → Option D) (g_law_symbols : List D → Option D) : FnF :=
 (fSeq (fNew 3 fnl) (fSeq (fNew 4 fnl) (fSeq (fForS (fZip (fMeth "str" gSplit (fv_ 0) (fC_ (kq (.str " ")) fnl)) (fCall g_law_symbols (fC_ (fv_ 0) (fC_ (fv_ 2) fnl)))) (gTup [5, 6]) (fSeq (fIf (fCmp (cmpD .Eq) (fv_ 6) (kq (.int 49))) (fSeq (fAppend 3 (fNeg (kq (.int 1)))) fBNil) (fSeq (fAppend 3 (fLenOwn 4)) (fSeq (fIf (fTru (fCall g_ISNONTERMINAL (fC_ (fv_ 6) fnl))) (fSeq (fAppend 4 (fTup (fC_ (fLst fnl) (fC_ (kq (.int 0)) (fC_ (fTup (fC_ (kq (.int 0)) (fC_ (kq (.int 0)) (fC_ (kq (.int 0)) (fC_ (kq (.int 0)) (fC_ (kq (.dT [])) fnl)))))) fnl))))) fBNil) (fSeq (fAsg 7 (fCall g_law_symbols (fC_ (fHmeth g_get (fv_ 1) (fC_ (fv_ 5) fnl)) (fC_ (fv_ 2) fnl)))) (fSeq (fAsg 8 (fCall gLen (fC_ (fMk .list (fLC (fItL (fun _ => true) (fv_ 7)) ["one"] [] (gName 0) (fTru (fCall g_ISNONTERMINAL (fC_ (fv_ 0) fnl))) (fEmit (fv_ 0)) [])) fnl))) (fSeq (fAppend 4 (fTup (fC_ (fv_ 7) (fC_ (fv_ 8) (fC_ (fTup (fC_ (kq (.int 1)) (fC_ (fv_ 8) (fC_ (fBin .Pow (kq (.int 2)) (fLenOwn 4)) (fC_ (kq (.int 0)) (fC_ (fDict1T (fTup (fC_ (fv_ 5) (fC_ (fLenOwn 4) (fC_ (fHmeth g_get (fv_ 1) (fC_ (fv_ 5) fnl)) fnl)))) (kq (.int 1))) fnl)))))) fnl))))) fBNil)))) fBNil))) fBNil)) (fSeq (fRet (fTup (fC_ (fv_ 3) (fC_ (fv_ 4) fnl)))) fBNil))))
theorem B_law_read {C : Cx} (X : Pg C) {k : Nat} (g_ISNONTERMINAL : List D → Option D) (g_get : List D → List D → Option D) (g_law_symbols : List D → Option D) (h_ISNONTERMINAL : ∀ ds d, g_ISNONTERMINAL ds = some d → FnOK C k (.ref 206) ds d) (h_get : ∀ xs ds d, g_get xs ds = some d → FnOK C k (.ref 118) (.hdr xs :: ds) d) (h_law_symbols : ∀ ds d, g_law_symbols ds = some d → FnOK C k (.ref 274) ds d) : BOK C k (scp f279) ["text", "book", "names", "row", "leaves", "word", "symbol", "rule", "size"] (bdy f279) (f_law_read g_ISNONTERMINAL g_get g_law_symbols) := by
 conv in bdy _ => whnf
 exact (bcs (SOK_new rfl inL lnl) (bcs (SOK_new rfl inL lnl) (bcs (SOK_for (IOK_zip X.ok (EOK_meth bm_split (fun _ _ _ h => split_ok h) eV (lC EOK_str lnl) (plC pnl) (fun _ _ h => by cases h; exact pnl) dc (fun _ => rfl) rfl) (EOK_callF X.ok h_law_symbols (lC eV (lC eV lnl)) kr X.f_law_symbols X.k_law_symbols dc (plC (plC pnl)) (plC pnl)) kr X.g_zip (fun _ => star_Call.trans (congrArg _ star_Call)) (fun _ => star_Call)) (GOK_tup (.cons rfl inL (.cons rfl inL .nil))) (bcs (SOK_if (TOK_cmp (cmp_ok _) eV eIt rfl) (bcs (SOK_append rfl ⟨inL, dc, dc⟩ (EOK_neg eIt) (plC pnl) (fun _ => rfl) rfl (fun _ => rfl)) bnl) (bcs (SOK_append rfl ⟨inL, dc, dc⟩ (EOK_lenOwn X.ok rfl ⟨inL, dc, dc⟩ kr X.g_len kr) (plC pnl) (fun _ => rfl) rfl (fun _ => rfl)) (bcs (SOK_if (TOK_val (EOK_callF X.ok h_ISNONTERMINAL (lC eV lnl) kr X.f_ISNONTERMINAL X.k_ISNONTERMINAL dc (plC pnl) pnl) (fun _ _ => rfl)) (bcs (SOK_append rfl ⟨inL, dc, dc⟩ (EOK_tup (lC (EOK_lst lnl) (lC eIt (lC (EOK_tup (lC eIt (lC eIt (lC eIt (lC eIt (lC EOK_dict0 lnl)))))) lnl)))) (plC pnl) (fun _ => rfl) rfl (fun _ => rfl)) bnl) (bcs (SOK_asg rfl inL (EOK_callF X.ok h_law_symbols (lC (EOK_hmeth X.ok X.hf X.m_get h_get eV (lC eV lnl) (plC pnl) pnl (fun _ => ⟨_, by with_unfolding_all rfl⟩)) (lC eV lnl)) kr X.f_law_symbols X.k_law_symbols dc (plC (plC pnl)) (plC pnl)) (fun _ _ => rfl)) (bcs (SOK_asg rfl inL (EOK_callB X.ok (fun _ _ h => len_ok h) (lC (EOK_lcomp (tg := ["one"]) (fr := []) (csB_ok kr) (IOK_list eV) (GOK_name rfl inL) (TsOK_one (TOK_val (EOK_callF X.ok h_ISNONTERMINAL (lC eV lnl) kr X.f_ISNONTERMINAL X.k_ISNONTERMINAL dc (plC pnl) pnl) (fun _ _ => rfl))) eV (fun _ _ => rfl)) lnl) kr X.g_len kr dc dc (plC pnl) pnl) (fun _ _ => rfl)) (bcs (SOK_append rfl ⟨inL, dc, dc⟩ (EOK_tup (lC eV (lC eV (lC (EOK_tup (lC eIt (lC eV (lC (EOK_bin eIt (EOK_lenOwn X.ok rfl ⟨inL, dc, dc⟩ kr X.g_len kr)) (lC eIt (lC (EOK_dict1 (EOK_tup (lC eV (lC (EOK_lenOwn X.ok rfl ⟨inL, dc, dc⟩ kr X.g_len kr) (lC (EOK_hmeth X.ok X.hf X.m_get h_get eV (lC eV lnl) (plC pnl) pnl (fun _ => ⟨_, by with_unfolding_all rfl⟩)) lnl)))) eIt) lnl)))))) lnl)))) (plC pnl) (fun _ => rfl) rfl (fun _ => rfl)) bnl)))) bnl))) bnl) (fun _ _ => rfl)) (bcs (SOK_ret (EOK_tup (lC eV (lC eV lnl)))) bnl))))
noncomputable def f_law_steps (g_ISNONTERMINAL : List D → Option D) : FnF :=
 (fSeq (fNew 2 fnl) (fSeq (fForS (fEnum (fv_ 0)) (gTup [3, 4]) (fSeq (fAsg 5 (fIf (fCmp (cmpD .GtE) (fv_ 4) (kq (.int 0))) (fSub (fSub (fv_ 1) (fv_ 4)) (kq (.int 1))) (kq (.int 0)))) (fSeq (fIf (fAnd (fCmp (cmpD .Gt) (fv_ 5) (kq (.int 0))) (fAnd (fCmp (cmpD .GtE) (fv_ 3) (fv_ 5)) (fAnd (fCmp (cmpD .Lt) (fCall gMax (fC_ (fSlice (fv_ 0) (fPart (fBin .Sub (fv_ 3) (fv_ 5))) (fPart (fv_ 3))) fnl)) (kq (.int 0))) fAndN))) (fSeq (fNew 6 fnl) (fSeq (fAsg 7 (fBin .Add (fv_ 3) (kq (.int 1)))) (fSeq (fForS (fRange (fv_ 5)) (gName 8) (fSeq (fAsg 11 (fv_ 7)) (fSeq (fAsg 12 (kq (.int 1))) (fSeq (fWhile (fCmp (cmpD .Gt) (fv_ 12) (kq (.int 0))) (fSeq (fAug 12 .Add (fIf (fCmp (cmpD .Lt) (fSub (fv_ 0) (fv_ 7)) (kq (.int 0))) (kq (.int 1)) (fNeg (kq (.int 1))))) (fSeq (fAug 7 .Add (kq (.int 1))) fBNil)) 100000) (fSeq (fAppend 6 (fSlice (fv_ 0) (fPart (fv_ 11)) (fPart (fv_ 7)))) fBNil))))) (fSeq (fNew 9 fnl) (fSeq (fForS (fItL (fun _ => true) (fSub (fSub (fv_ 1) (fv_ 4)) (kq (.int 0)))) (gName 10) (fSeq (fAsg 9 (fBin .Add (fv_ 9) (fIf (fTru (fCall g_ISNONTERMINAL (fC_ (fv_ 10) fnl))) (fSub (fv_ 6) (fBin .Sub (fv_ 10) (kq (.int 256)))) (fLst (fC_ (fNeg (kq (.int 1))) fnl))))) fBNil)) (fSeq (fAppend 2 (fTup (fC_ (fv_ 4) (fC_ (fBin .Add (fBin .Add (fSlice (fv_ 0) fNoPart (fPart (fBin .Sub (fv_ 3) (fv_ 5)))) (fv_ 9)) (fSlice (fv_ 0) (fPart (fv_ 7)) fNoPart)) fnl)))) fBNil)))))) fBNil) fBNil))) (fSeq (fRet (fv_ 2)) fBNil)))
theorem B_law_steps {C : Cx} (X : Pg C) {k : Nat} (g_ISNONTERMINAL : List D → Option D) (h_ISNONTERMINAL : ∀ ds d, g_ISNONTERMINAL ds = some d → FnOK C k (.ref 206) ds d) : BOK C k (scp f286) ["row", "leaves", "steps", "at", "place", "size", "parts", "stop", "k", "middle", "symbol", "begin", "need"] (bdy f286) (f_law_steps g_ISNONTERMINAL) := by
 conv in bdy _ => whnf
 exact (bcs (SOK_new rfl inL lnl) (bcs (SOK_for (IOK_enum X.ok eV kr X.g_enumerate (fun _ => star_Name)) (GOK_tup (.cons rfl inL (.cons rfl inL .nil))) (bcs (SOK_asg rfl inL (EOK_if (TOK_cmp (cmp_ok _) eV eIt rfl) (EOK_sub (EOK_sub eV eV (fun _ _ => rfl)) eIt (fun _ _ => rfl)) eIt) (fun _ _ => rfl)) (bcs (SOK_if (TOK_bool (AOK_and (TOK_cmp (cmp_ok _) eV eIt rfl) (AOK_and (TOK_cmp (cmp_ok _) eV eV rfl) (AOK_and (TOK_cmp (cmp_ok _) (EOK_callB X.ok (fun _ _ h => max_ok h) (lC (EOK_slice eV (POK_some (EOK_bin eV eV)) (POK_some eV)) lnl) kr X.g_max kr dc dc (plC pnl) pnl) eIt rfl) AOK_andN)))) (bcs (SOK_new rfl inL lnl) (bcs (SOK_asg rfl inL (EOK_bin eV eIt) (fun _ _ => rfl)) (bcs (SOK_for (IOK_range X.ok eV kr X.g_range (fun _ => star_Name)) (GOK_name rfl inL) (bcs (SOK_asg rfl inL eV (fun _ _ => rfl)) (bcs (SOK_asg rfl inL eIt (fun _ _ => rfl)) (bcs (SOK_while (TOK_cmp (cmp_ok _) eV eIt rfl) (bcs (SOK_aug rfl inL dc (EOK_if (TOK_cmp (cmp_ok _) (EOK_sub eV eV (fun _ _ => rfl)) eIt rfl) eIt (EOK_neg eIt))) (bcs (SOK_aug rfl inL dc eIt) bnl)) 100000) (bcs (SOK_append rfl ⟨inL, dc, dc⟩ (EOK_slice eV (POK_some eV) (POK_some eV)) (plC pnl) (fun _ => rfl) rfl (fun _ => rfl)) bnl)))) (fun _ _ => rfl)) (bcs (SOK_new rfl inL lnl) (bcs (SOK_for (IOK_list (EOK_sub (EOK_sub eV eV (fun _ _ => rfl)) eIt (fun _ _ => rfl))) (GOK_name rfl inL) (bcs (SOK_asg rfl inL (EOK_bin eV (EOK_if (TOK_val (EOK_callF X.ok h_ISNONTERMINAL (lC eV lnl) kr X.f_ISNONTERMINAL X.k_ISNONTERMINAL dc (plC pnl) pnl) (fun _ _ => rfl)) (EOK_sub eV (EOK_bin eV (EOK_nt X kr)) (fun _ _ => rfl)) (EOK_lst (lC (EOK_neg eIt) lnl)))) (fun _ _ => rfl)) bnl) (fun _ _ => rfl)) (bcs (SOK_append rfl ⟨inL, dc, dc⟩ (EOK_tup (lC eV (lC (EOK_bin (EOK_bin (EOK_slice eV POK_none (POK_some (EOK_bin eV eV))) eV) (EOK_slice eV (POK_some eV) POK_none)) lnl))) (plC pnl) (fun _ => rfl) rfl (fun _ => rfl)) bnl)))))) bnl) bnl)) (fun _ _ => rfl)) (bcs (SOK_ret eV) bnl)))
noncomputable def f_get : FnF :=
 (fSeq (fAsg 1 (fConv 0 (fMeth "str" gLower (fv_ 1) fnl))) (fSeq (fForS (fItL allTup (fHattr (fv_ 0))) (gTup [3, 4]) (fSeq (fIf (fCmp (cmpD .Eq) (fMeth "str" gLower (fv_ 3) fnl) (fv_ 1)) (fSeq (fRet (fv_ 4)) fBNil) fBNil) fBNil)) (fSeq (fRet (fv_ 2)) fBNil)))
theorem B_get {C : Cx} (X : Pg C) {k : Nat} (h_conv : ConvOK C k 70) : BOK C k (scp f118) ["self", "name", "default", "k", "v"] (bdy f118) (f_get ) := by
 conv in bdy _ => whnf
 exact (bcs (SOK_asg rfl inL (EOK_conv X.ok X.hf X.m_convert_string_type h_conv rfl ⟨inL, dc, dc⟩ (EOK_meth bm_lower (fun _ _ _ h => lower_ok h) eV lnl pnl (fun _ _ h => by cases h) dc (fun _ => rfl) rfl) (plC pnl) (fun _ => ⟨_, by with_unfolding_all rfl⟩) (fun _ => rfl)) (fun _ _ => rfl)) (bcs (SOK_for (IOK_listT (EOK_hattr X.ok X.hf eV (fun _ => by with_unfolding_all rfl))) (GOK_tup (.cons rfl inL (.cons rfl inL .nil))) (bcs (SOK_if (TOK_cmp (cmp_ok _) (EOK_meth bm_lower (fun _ _ _ h => lower_ok h) eV lnl pnl (fun _ _ h => by cases h) dc (fun _ => rfl) rfl) eV rfl) (bcs (SOK_ret eV) bnl) bnl) bnl) (fun _ _ => rfl)) (bcs (SOK_ret eV) bnl)))
noncomputable def f_items : FnF :=
 (fSeq (fRet (fHcopy 0)) fBNil)
theorem B_items {C : Cx} (X : Pg C) {k : Nat} : BOK C k (scp f135) ["self"] (bdy f135) (f_items ) := by
 conv in bdy _ => whnf
 exact (bcs (SOK_ret (EOK_hcopy X.ok X.hf rfl ⟨inL, dc, dc⟩ (fun _ => by with_unfolding_all rfl))) bnl)
noncomputable def f_setdefault (g_get : List D → List D → Option D) : FnF :=
 (fSeq (fAsg 3 (fHread 0 g_get (fC_ (fv_ 1) fnl))) (fSeq (fIf (fCmp (cmpD .Is) (fv_ 3) (kq .none)) (fSeq (fHappend 0 (fTup (fC_ (fConv 0 (fv_ 1)) (fC_ (fConv 0 (fv_ 2)) fnl)))) (fSeq (fRet (fv_ 2)) fBNil)) (fSeq (fRet (fv_ 3)) fBNil)) fBNil))
theorem B_setdefault {C : Cx} (X : Pg C) {k : Nat} (g_get : List D → List D → Option D) (h_get : ∀ xs ds d, g_get xs ds = some d → FnOK C k (.ref 118) (.hdr xs :: ds) d) (h_conv : ConvOK C k 70) : BOK C k (scp f161) ["self", "name", "value", "result"] (bdy f161) (f_setdefault g_get) := by
 conv in bdy _ => whnf
 exact (bcs (SOK_asg rfl inL (EOK_hread X.ok X.hf X.m_get rfl ⟨inL, dc, dc⟩ h_get (lC eV lnl) (plC pnl) pnl (fun _ => ⟨_, by with_unfolding_all rfl⟩)) (fun _ _ => rfl)) (bcs (SOK_if (TOK_cmp (cmp_ok _) eV EOK_none rfl) (bcs (SOK_happend X.ok X.hf rfl ⟨inL, dc, dc⟩ (EOK_tup (lC (EOK_conv X.ok X.hf X.m_convert_string_type h_conv rfl ⟨inL, dc, dc⟩ eV (plC pnl) (fun _ => ⟨_, by with_unfolding_all rfl⟩) (fun _ => rfl)) (lC (EOK_conv X.ok X.hf X.m_convert_string_type h_conv rfl ⟨inL, dc, dc⟩ eV (plC pnl) (fun _ => ⟨_, by with_unfolding_all rfl⟩) (fun _ => rfl)) lnl))) (plC pnl) (fun _ => by with_unfolding_all rfl) (fun _ => rfl) rfl (fun _ => rfl)) (bcs (SOK_ret eV) bnl)) (bcs (SOK_ret eV) bnl)) bnl))
noncomputable def f_convert_string_type : FnF :=
 (fSeq (fIf (fCmp (cmpD .Is) (fTypeAt 1) (kq (.typ "str"))) (fSeq (fAsg 3 (fIf (fTru (fv_ 2)) (kq (.raw (.ref 43))) (kq (.raw (.ref 48))))) (fSeq (fIf (fTru (fSearch [43, 48] (fv_ 3) (fv_ 1))) (fSeq (fun _ => none) fBNil) fBNil) (fSeq (fRet (fv_ 1)) fBNil))) fBNil) (fSeq (fun _ => none) fBNil))
theorem B_convert_string_type {C : Cx} (X : Pg C) {k : Nat} : BOK C k (scp f70) ["self", "value", "name", "regex"] (bdy f70) (f_convert_string_type ) := by
 conv in bdy _ => whnf
 exact (bcs (SOK_if (TOK_cmp (cmp_ok _) (EOK_typeAt X.ok rfl ⟨inL, dc, dc⟩ kr X.g_type kr) (EOK_btyp X.ok kr X.g_str kr dc dc) rfl) (bcs (SOK_asg rfl inL (EOK_if (TOK_val eV (fun _ _ => rfl)) (EOK_glob X.ok X.g_pn (fun _ _ => rfl) kr dc) (EOK_glob X.ok X.g_pv (fun _ _ => rfl) kr dc)) (fun _ _ => rfl)) (bcs (SOK_if (TOK_val (EOK_search X.ok X.pats eV eV (plC pnl) (fun _ => rfl) rfl) (fun _ _ => rfl)) (bcs SOK_never bnl) bnl) (bcs (SOK_ret eV) bnl))) bnl) (bcs SOK_never bnl))
noncomputable def f_law_states (g_add_func_stats : List D → Option D) (g_count_calls : List D → Option D) (g_items : List D → List D → Option (D × List D)) (g_law_steps : List D → Option D) (g_setdefault : List D → List D → Option (D × List D)) : FnF :=
 (fSeq (fNewE 2 (.ownH false [])) (fSeq (fExp (fHio 2 g_setdefault (fC_ (kq (.str "0")) (fC_ (fMeth "str" gJoin (kq (.str " ")) (fC_ (fMk .list (fLC (fItL (fun _ => true) (fv_ 0)) ["one"] [] (gName 0) fAndN (fEmit (fCall gStr (fC_ (fv_ 0) fnl))) [])) fnl)) fnl)))) (fSeq (fDict1I 3 (kq (.int 0)) (fTup (fC_ (kq (.int 0)) (fC_ (kq (.int 0)) (fC_ (kq (.int 0)) (fC_ (kq (.int 0)) (fC_ (kq (.dT [])) fnl))))))) (fSeq (fNew 4 fnl) (fSeq (fAsg 5 (kq (.int 0))) (fSeq (fWhile (fCmp (cmpD .Lt) (fv_ 5) (fCall gLen (fC_ (fHio 2 g_items fnl) fnl))) (fSeq (fAsgT [9, 10] (fSub (fHio 2 g_items fnl) (fv_ 5))) (fSeq (fAsgC 6 (fLC (fItL (fun _ => true) (fMeth "str" gSplit (fv_ 10) (fC_ (kq (.str " ")) fnl))) ["word"] [] (gName 0) fAndN (fEmit (fCall gInt (fC_ (fv_ 0) fnl))) [])) (fSeq (fAsg 7 (fGetI 3 (fCall gInt (fC_ (fv_ 9) fnl)))) (fSeq (fIf (fCmp (cmpD .NotEq) (fCall gLen (fC_ (fv_ 6) fnl)) (fBin .Sub (kq (.int 13)) (fBin .Mult (kq (.int 2)) (fCall g_count_calls (fC_ (fSub (fv_ 7) (kq (.int 4))) fnl))))) (fSeq (fRet (fTup (fC_ (fLst fnl) (fC_ (fv_ 3) fnl)))) fBNil) fBNil) (fSeq (fAsg 8 (fCall g_law_steps (fC_ (fv_ 6) (fC_ (fv_ 1) fnl)))) (fSeq (fIf (fCmp eqC (fv_ 8) (fLst fnl)) (fSeq (fAppend 4 (fTup (fC_ (fv_ 6) (fC_ (fv_ 7) fnl)))) fBNil) fBNil) (fSeq (fForS (fItL allTup (fv_ 8)) (gTup [11, 12]) (fSeq (fAsg 13 (fCall g_add_func_stats (fC_ (fv_ 7) (fC_ (fSub (fSub (fv_ 1) (fv_ 11)) (kq (.int 2))) fnl)))) (fSeq (fAsg 14 (fMeth "str" gJoin (kq (.str " ")) (fC_ (fMk .list (fLC (fItL (fun _ => true) (fv_ 12)) ["one"] [] (gName 0) fAndN (fEmit (fCall gStr (fC_ (fv_ 0) fnl))) [])) fnl))) (fSeq (fIf (fOr (fCmp neC (fHio 2 g_setdefault (fC_ (fCall gStr (fC_ (fSub (fv_ 13) (kq (.int 2))) fnl)) (fC_ (fv_ 14) fnl))) (fv_ 14)) (fOr (fCmp neC (fSetdef 3 (fC_ (fSub (fv_ 13) (kq (.int 2))) (fC_ (fv_ 13) fnl))) (fv_ 13)) fOrN)) (fSeq (fRet (fTup (fC_ (fLst fnl) (fC_ (fv_ 3) fnl)))) fBNil) fBNil) fBNil)))) (fSeq (fAug 5 .Add (kq (.int 1))) fBNil)))))))) 100000) (fSeq (fRet (fTup (fC_ (fv_ 4) (fC_ (fv_ 3) fnl)))) fBNil)))))))
theorem B_law_states {C : Cx} (X : Pg C) {k : Nat} (g_add_func_stats : List D → Option D) (g_count_calls : List D → Option D) (g_items : List D → List D → Option (D × List D)) (g_law_steps : List D → Option D) (g_setdefault : List D → List D → Option (D × List D)) (h_add_func_stats : ∀ ds d, g_add_func_stats ds = some d → FnOK C k (.ref 182) ds d) (h_count_calls : ∀ ds d, g_count_calls ds = some d → FnOK C k (.ref 196) ds d) (h_items : ∀ xs ds d xs', g_items xs ds = some (d, xs') → FnIO C k (.ref 135) true ds (.ownH true xs) (.ownH true xs') d) (h_law_steps : ∀ ds d, g_law_steps ds = some d → FnOK C k (.ref 286) ds d) (h_setdefault : ∀ xs ds d xs', g_setdefault xs ds = some (d, xs') → FnIO C k (.ref 161) true ds (.ownH true xs) (.ownH true xs') d) (k0 : Nat) (hk0 : k = k0 + 1) (h_init0 : InitOK C k0 63 .none [] true) : BOK C k (scp f291) ["row", "leaves", "table", "profiles", "ends", "k", "now", "profile", "steps", "name", "text", "place", "other", "total", "written"] (bdy f291) (f_law_states g_add_func_stats g_count_calls g_items g_law_steps g_setdefault) := by
 conv in bdy _ => whnf
 exact (bcs (SOK_hnew0 X.ok X.hi X.m_init hk0 h_init0 rfl inL kr X.g_hdr X.k_hdr dc) (bcs (SOK_exp (EOK_hio X.ok X.hf X.m_setdefault rfl ⟨inL, dc, dc⟩ h_setdefault (lC EOK_str (lC (EOK_meth bm_join (fun _ _ _ h => join_ok h) EOK_str (lC (EOK_lcomp (tg := ["one"]) (fr := []) (csB_ok kr) (IOK_list eV) (GOK_name rfl inL) TsOK_nil (EOK_callT X.ok (fun _ _ h => str_ok h) (lC eV lnl) kr X.g_str kr dc dc (plC pnl) pnl) (fun _ _ => rfl)) lnl) (plC pnl) (fun _ _ h => by cases h; exact pnl) dc (fun _ => rfl) rfl) lnl)) (plC (plC pnl)) (plC pnl) (fun _ => ⟨_, by with_unfolding_all rfl⟩)) (fun _ => rfl)) (bcs (SOK_new0 rfl inL eIt (EOK_tup (lC eIt (lC eIt (lC eIt (lC eIt (lC EOK_dict0 lnl))))))) (bcs (SOK_new rfl inL lnl) (bcs (SOK_asg rfl inL eIt (fun _ _ => rfl)) (bcs (SOK_while (TOK_cmp (cmp_ok _) eV (EOK_callB X.ok (fun _ _ h => len_ok h) (lC (EOK_hio0 X.ok X.hf X.m_items rfl ⟨inL, dc, dc⟩ h_items (fun _ => ⟨_, by with_unfolding_all rfl⟩)) lnl) kr X.g_len kr dc dc (plC pnl) pnl) rfl) (bcs (SOK_asgT (.cons rfl inL (.cons rfl inL .nil)) (EOK_sub (EOK_hio0 X.ok X.hf X.m_items rfl ⟨inL, dc, dc⟩ h_items (fun _ => ⟨_, by with_unfolding_all rfl⟩)) eV (fun _ _ => rfl)) (fun _ _ => ⟨rfl, rfl⟩)) (bcs (SOK_lcomp rfl inL (fun _ G => swap_yes G rfl kr rfl) (tg := ["word"]) (fr := []) (csB_ok kr) (IOK_list (EOK_meth bm_split (fun _ _ _ h => split_ok h) eV (lC EOK_str lnl) (plC pnl) (fun _ _ h => by cases h; exact pnl) dc (fun _ => rfl) rfl)) (GOK_name rfl inL) TsOK_nil (EOK_callT X.ok (fun _ _ h => int_ok h) (lC eV lnl) kr X.g_int kr dc dc (plC pnl) pnl) (fun _ _ => rfl)) (bcs (SOK_asg rfl inL (EOK_getI rfl ⟨inL, dc, dc⟩ (EOK_callT X.ok (fun _ _ h => int_ok h) (lC eV lnl) kr X.g_int kr dc dc (plC pnl) pnl) (fun _ _ => rfl)) (fun _ _ => rfl)) (bcs (SOK_if (TOK_cmp (cmp_ok _) (EOK_callB X.ok (fun _ _ h => len_ok h) (lC eV lnl) kr X.g_len kr dc dc (plC pnl) pnl) (EOK_bin eIt (EOK_bin eIt (EOK_callF X.ok h_count_calls (lC (EOK_sub eV eIt (fun _ _ => rfl)) lnl) kr X.f_count_calls X.k_count_calls dc (plC pnl) pnl))) rfl) (bcs (SOK_ret (EOK_tup (lC (EOK_lst lnl) (lC eV lnl)))) bnl) bnl) (bcs (SOK_asg rfl inL (EOK_callF X.ok h_law_steps (lC eV (lC eV lnl)) kr X.f_law_steps X.k_law_steps dc (plC (plC pnl)) (plC pnl)) (fun _ _ => rfl)) (bcs (SOK_if (TOK_cmp eqC_ok eV (EOK_lst lnl) rfl) (bcs (SOK_append rfl ⟨inL, dc, dc⟩ (EOK_tup (lC eV (lC eV lnl))) (plC pnl) (fun _ => rfl) rfl (fun _ => rfl)) bnl) bnl) (bcs (SOK_for (IOK_listT eV) (GOK_tup (.cons rfl inL (.cons rfl inL .nil))) (bcs (SOK_asg rfl inL (EOK_callF X.ok h_add_func_stats (lC eV (lC (EOK_sub (EOK_sub eV eV (fun _ _ => rfl)) eIt (fun _ _ => rfl)) lnl)) kr X.f_add_func_stats X.k_add_func_stats dc (plC (plC pnl)) (plC pnl)) (fun _ _ => rfl)) (bcs (SOK_asg rfl inL (EOK_meth bm_join (fun _ _ _ h => join_ok h) EOK_str (lC (EOK_lcomp (tg := ["one"]) (fr := []) (csB_ok kr) (IOK_list eV) (GOK_name rfl inL) TsOK_nil (EOK_callT X.ok (fun _ _ h => str_ok h) (lC eV lnl) kr X.g_str kr dc dc (plC pnl) pnl) (fun _ _ => rfl)) lnl) (plC pnl) (fun _ _ h => by cases h; exact pnl) dc (fun _ => rfl) rfl) (fun _ _ => rfl)) (bcs (SOK_if (TOK_bool (AOK_or (TOK_cmp neC_ok (EOK_hio X.ok X.hf X.m_setdefault rfl ⟨inL, dc, dc⟩ h_setdefault (lC (EOK_callT X.ok (fun _ _ h => str_ok h) (lC (EOK_sub eV eIt (fun _ _ => rfl)) lnl) kr X.g_str kr dc dc (plC pnl) pnl) (lC eV lnl)) (plC (plC pnl)) (plC pnl) (fun _ => ⟨_, by with_unfolding_all rfl⟩)) eV rfl) (AOK_or (TOK_cmp neC_ok (EOK_setdef bm_setdefault rfl ⟨inL, dc, dc⟩ (lC (EOK_sub eV eIt (fun _ _ => rfl)) (lC eV lnl)) (plC (plC pnl)) (fun _ _ h => by cases h; exact (plC pnl)) dc (fun _ => rfl) rfl) eV rfl) AOK_orN))) (bcs (SOK_ret (EOK_tup (lC (EOK_lst lnl) (lC eV lnl)))) bnl) bnl) bnl))) (fun _ _ => rfl)) (bcs (SOK_aug rfl inL dc eIt) bnl)))))))) 100000) (bcs (SOK_ret (EOK_tup (lC eV (lC eV lnl)))) bnl)))))))
noncomputable def f_law (g_init : List D → Bool) (g_law_filled : List D → List D → Option (D × List D)) (g_law_numbers : List D → Option D) (g_law_read : List D → Option D) (g_law_row : List D → Option D) (g_law_shape : List D → Option D) (g_law_sign : List D → Option D) (g_law_states : List D → Option D) (g_law_text : List D → Option D) (g_law_tree : List D → Option D) (g_law_words : List D → Option D) : FnF :=
 (fSeq (fAsg 1 (fCall g_law_numbers (fC_ (fv_ 0) fnl))) (fSeq (fAsg 2 (fMk .list (fLC (fItL (fun _ => true) (fSlice (fv_ 1) fNoPart (fPart (kq (.int 3))))) ["number"] [] (gName 0) fAndN (fEmit (fCall g_law_shape (fC_ (fv_ 0) fnl))) []))) (fSeq (fAsg 3 (fMk .list (fLC (fRange (kq (.int 3))) ["k"] [("numbers", 1)] (gName 0) fAndN (fEmit (fCall g_law_sign (fC_ (fSub (fv_ 1) (fv_ 0)) (fC_ (fv_ 0) fnl)))) []))) (fSeq (fAsg 4 (fMk .list (fLC (fRange (kq (.int 3))) ["k"] [("shapes", 2), ("numbers", 1)] (gName 0) fAndN (fEmit (fCall g_law_text (fC_ (fSub (fv_ 1) (fv_ 0)) (fC_ (fSub (fTup (fC_ (kq (.str "abc")) (fC_ (kq (.str "ABC")) fnl))) (fBin .Mod (fBin .FloorDiv (fSub (fv_ 2) (fv_ 0)) (kq (.int 180))) (kq (.int 2)))) fnl)))) []))) (fSeq (fAsg 5 (fCall g_law_words (fC_ (fSub (fv_ 1) (kq (.int 3))) (fC_ (fv_ 3) fnl)))) (fSeq (fAsg 6 (fCall g_law_tree (fC_ (fSub (fv_ 1) (kq (.int 4))) fnl))) (fSeq (fAsg 7 (fHnew g_init (fLst (fC_ (fTup (fC_ (kq (.str "A")) (fC_ (kq (.str "0")) fnl))) (fC_ (fTup (fC_ (kq (.str "b")) (fC_ (kq (.str "1")) fnl))) (fC_ (fTup (fC_ (kq (.str "C")) (fC_ (kq (.str "2")) fnl))) (fC_ (fTup (fC_ (kq (.str "d")) (fC_ (kq (.str "3")) fnl))) (fC_ (fTup (fC_ (kq (.str "E")) (fC_ (kq (.str "4")) fnl))) (fC_ (fTup (fC_ (kq (.str "f")) (fC_ (kq (.str "5")) fnl))) (fC_ (fTup (fC_ (kq (.str "G")) (fC_ (kq (.str "6")) fnl))) fnl)))))))))) (fSeq (fAsgT [13, 14] (fCall g_law_read (fC_ (fCall g_law_text (fC_ (fv_ 6) (fC_ (fv_ 5) fnl))) (fC_ (fHnew g_init (fMk .list (fLC (fRange (kq (.int 3))) ["k"] [("signs", 3), ("texts", 4)] (gName 0) fAndN (fEmit (fTup (fC_ (fSub (fv_ 1) (fv_ 0)) (fC_ (fSub (fv_ 2) (fv_ 0)) fnl)))) []))) (fC_ (fv_ 7) fnl))))) (fSeq (fAsgT [15, 16] (fCall g_law_states (fC_ (fv_ 13) (fC_ (fv_ 14) fnl)))) (fSeq (fIf (fCmp neC (fMk .list (fLC (fKeys (fv_ 16)) ["one", "two"] [("profiles", 16)] (gName 0) fAndN (fInner (fKeys (fv_ 2)) (gName 1) (fOr (fCmp (cmpD .NotIn) (fBin .BitOr (fv_ 0) (fv_ 1)) (fv_ 2)) (fOr (fCmp (cmpD .NotIn) (fBin .BitAnd (fv_ 0) (fv_ 1)) (fv_ 2)) fOrN)) (fEmit (fv_ 0))) [])) (fLst fnl)) (fSeq (fRet (kq (.bool false))) fBNil) fBNil) (fSeq (fNewE 8 (.ownI [])) (fSeq (fForS (fRange (kq (.int 7))) (gName 9) (fSeq (fIf (fCmp (cmpD .In) (fSub (fv_ 5) (fv_ 9)) (fv_ 3)) (fSeq (fAsg 17 (fMeth "list" gIndex (fv_ 3) (fC_ (fSub (fv_ 5) (fv_ 9)) fnl))) (fSeq (fSetI 8 (fTup (fC_ (fBin .Add (fBin .Add (kq (.int 1)) (fB (fCmp (cmpD .Gt) (fBin .Mod (fSub (fv_ 1) (fv_ 17)) (kq (.int 15))) (kq (.int 0))))) (fB (fCmp (cmpD .Gt) (fBin .Mod (fSub (fv_ 1) (fv_ 17)) (kq (.int 15))) (kq (.int 2))))) (fC_ (fSub (fv_ 2) (fv_ 17)) (fC_ (fSub (fv_ 4) (fv_ 17)) fnl)))) (fv_ 9)) fBNil)) fBNil) fBNil)) (fSeq (fNew 10 fnl) (fSeq (fAsg 11 (fIO 10 g_law_filled (fC_ (fv_ 6) (fC_ (fMk .list (fLC (fRange (kq (.int 7))) ["place"] [] (gName 0) fAndN (fEmit (fTup (fC_ (fv_ 0) (fC_ (fLst fnl) fnl)))) [])) (fC_ (fv_ 8) (fLast 10)))))) (fSeq (fAsg 12 (fTup (fC_ (fCall gLen (fC_ (fv_ 10) fnl)) (fC_ (fCall gSum (fC_ (fMk .list (fLC (fItL (fun _ => true) (fv_ 10)) ["place"] [("rules", 8)] (gName 0) fAndN (fEmit (fSub (fSub (fv_ 1) (fv_ 0)) (kq (.int 0)))) [])) fnl)) (fC_ (fCall gSum (fC_ (fMk .list (fLC (fItL (fun _ => true) (fv_ 10)) ["place"] [] (gName 0) fAndN (fEmit (fBin .Pow (kq (.int 2)) (fv_ 0))) [])) fnl)) (fC_ (kq (.int 0)) (fC_ (fMk .dT (fLC (fItL (fun _ => true) (fv_ 10)) ["place"] [("words", 5), ("rules", 8)] (gName 0) fAndN (fEmitD (fTup (fC_ (fSub (fv_ 1) (fv_ 0)) (fC_ (fv_ 0) (fC_ (fSub (fSub (fv_ 2) (fv_ 0)) (kq (.int 2))) fnl)))) (kq (.int 1))) [])) fnl))))))) (fSeq (fRet (fB (fCmp eqC (fv_ 15) (fLst (fC_ (fTup (fC_ (fCall g_law_row (fC_ (fv_ 11) fnl)) (fC_ (fv_ 12) fnl))) fnl))))) fBNil))))))))))))))))
theorem B_law {C : Cx} (X : Pg C) {k : Nat} (g_init : List D → Bool) (g_law_filled : List D → List D → Option (D × List D)) (g_law_numbers : List D → Option D) (g_law_read : List D → Option D) (g_law_row : List D → Option D) (g_law_shape : List D → Option D) (g_law_sign : List D → Option D) (g_law_states : List D → Option D) (g_law_text : List D → Option D) (g_law_tree : List D → Option D) (g_law_words : List D → Option D) (h_init : ∀ xs, g_init xs = true → ∃ k', k = k' + 1 ∧ InitOK C k' 63 (.list xs) xs false) (h_law_filled : ∀ ds xs d xs', g_law_filled ds xs = some (d, xs') → FnIO C k (.ref 262) false ds (.ownL true xs) (.ownL true xs') d) (h_law_numbers : ∀ ds d, g_law_numbers ds = some d → FnOK C k (.ref 213) ds d) (h_law_read : ∀ ds d, g_law_read ds = some d → FnOK C k (.ref 279) ds d) (h_law_row : ∀ ds d, g_law_row ds = some d → FnOK C k (.ref 269) ds d) (h_law_shape : ∀ ds d, g_law_shape ds = some d → FnOK C k (.ref 220) ds d) (h_law_sign : ∀ ds d, g_law_sign ds = some d → FnOK C k (.ref 227) ds d) (h_law_states : ∀ ds d, g_law_states ds = some d → FnOK C k (.ref 291) ds d) (h_law_text : ∀ ds d, g_law_text ds = some d → FnOK C k (.ref 234) ds d) (h_law_tree : ∀ ds d, g_law_tree ds = some d → FnOK C k (.ref 248) ds d) (h_law_words : ∀ ds d, g_law_words ds = some d → FnOK C k (.ref 241) ds d) : BOK C k (scp f296) ["script", "numbers", "shapes", "signs", "texts", "words", "tree", "names", "rules", "place", "done", "value", "due", "row", "leaves", "ends", "profiles", "k"] (bdy f296) (f_law g_init g_law_filled g_law_numbers g_law_read g_law_row g_law_shape g_law_sign g_law_states g_law_text g_law_tree g_law_words) := by
 conv in bdy _ => whnf
 exact (bcs (SOK_asg rfl (.inr kr) (EOK_callF X.ok h_law_numbers (lC eV lnl) kr X.f_law_numbers X.k_law_numbers dc (plC pnl) pnl) (fun _ _ => rfl)) (bcs (SOK_asg rfl (.inr kr) (EOK_lcomp (tg := ["number"]) (fr := []) (csB_ok kr) (IOK_list (EOK_slice eW POK_none (POK_some eIt))) (GOK_name rfl inL) TsOK_nil (EOK_callF X.ok h_law_shape (lC eV lnl) kr X.f_law_shape X.k_law_shape dc (plC pnl) pnl) (fun _ _ => rfl)) (fun _ G => swap_no G kr)) (bcs (SOK_asg rfl (.inr kr) (EOK_lcomp (tg := ["k"]) (fr := [("numbers", 1)]) (csB_ok kr) (IOK_range X.ok eIt kr X.g_range (fun _ => star_Constant)) (GOK_name rfl inL) TsOK_nil (EOK_callF X.ok h_law_sign (lC (EOK_sub eW eV (fun _ _ => rfl)) (lC eV lnl)) kr X.f_law_sign X.k_law_sign dc (plC (plC pnl)) (plC pnl)) (fun _ _ => rfl)) (fun _ G => swap_no G kr)) (bcs (SOK_asg rfl (.inr kr) (EOK_lcomp (tg := ["k"]) (fr := [("shapes", 2), ("numbers", 1)]) (csB_ok kr) (IOK_range X.ok eIt kr X.g_range (fun _ => star_Constant)) (GOK_name rfl inL) TsOK_nil (EOK_callF X.ok h_law_text (lC (EOK_sub eW eV (fun _ _ => rfl)) (lC (EOK_sub (EOK_tup (lC EOK_str (lC EOK_str lnl))) (EOK_bin (EOK_bin (EOK_sub eW eV (fun _ _ => rfl)) eIt) eIt) (fun _ _ => rfl)) lnl)) kr X.f_law_text X.k_law_text dc (plC (plC pnl)) (plC pnl)) (fun _ _ => rfl)) (fun _ G => swap_no G kr)) (bcs (SOK_asg rfl (.inr kr) (EOK_callF X.ok h_law_words (lC (EOK_sub eW eIt (fun _ _ => rfl)) (lC eW lnl)) kr X.f_law_words X.k_law_words dc (plC (plC pnl)) (plC pnl)) (fun _ _ => rfl)) (bcs (SOK_asg rfl inL (EOK_callF X.ok h_law_tree (lC (EOK_sub eW eIt (fun _ _ => rfl)) lnl) kr X.f_law_tree X.k_law_tree dc (plC pnl) pnl) (fun _ _ => rfl)) (bcs (SOK_asg rfl inL (EOK_hnew X.ok X.hi X.m_init h_init (EOK_lst (lC (EOK_tup (lC EOK_str (lC EOK_str lnl))) (lC (EOK_tup (lC EOK_str (lC EOK_str lnl))) (lC (EOK_tup (lC EOK_str (lC EOK_str lnl))) (lC (EOK_tup (lC EOK_str (lC EOK_str lnl))) (lC (EOK_tup (lC EOK_str (lC EOK_str lnl))) (lC (EOK_tup (lC EOK_str (lC EOK_str lnl))) (lC (EOK_tup (lC EOK_str (lC EOK_str lnl))) lnl)))))))) kr X.g_hdr X.k_hdr dc (plC pnl)) (fun _ _ => rfl)) (bcs (SOK_asgT (.cons rfl inL (.cons rfl inL .nil)) (EOK_callF X.ok h_law_read (lC (EOK_callF X.ok h_law_text (lC eV (lC eW lnl)) kr X.f_law_text X.k_law_text dc (plC (plC pnl)) (plC pnl)) (lC (EOK_hnew X.ok X.hi X.m_init h_init (EOK_lcomp (tg := ["k"]) (fr := [("signs", 3), ("texts", 4)]) (csB_ok kr) (IOK_range X.ok eIt kr X.g_range (fun _ => star_Constant)) (GOK_name rfl inL) TsOK_nil (EOK_tup (lC (EOK_sub eW eV (fun _ _ => rfl)) (lC (EOK_sub eW eV (fun _ _ => rfl)) lnl))) (fun _ _ => rfl)) kr X.g_hdr X.k_hdr dc (plC pnl)) (lC eV lnl))) kr X.f_law_read X.k_law_read dc (plC (plC (plC pnl))) (plC (plC pnl))) (fun _ _ => ⟨rfl, rfl⟩)) (bcs (SOK_asgT (.cons rfl inL (.cons rfl (.inr ⟨by kernel_rfl, rfl⟩) .nil)) (EOK_callF X.ok h_law_states (lC eV (lC eV lnl)) kr X.f_law_states X.k_law_states dc (plC (plC pnl)) (plC pnl)) (fun _ _ => ⟨rfl, rfl⟩)) (bcs (SOK_if (TOK_cmp neC_ok (EOK_lcomp2 (tg := ["one", "two"]) (fr := [("profiles", 16)]) (csB_ok kr) (IOK_keys eW) (GOK_name rfl inL) TsOK_nil (IOK_keys eW) (GOK_name rfl inL) (TsOK_one (TOK_bool (AOK_or (TOK_cmp (cmp_ok _) (EOK_bin eV eV) eW rfl) (AOK_or (TOK_cmp (cmp_ok _) (EOK_bin eV eV) eW rfl) AOK_orN)))) eV (fun _ _ => rfl) (fun _ _ => rfl)) (EOK_lst lnl) rfl) (bcs (SOK_ret EOK_bool) bnl) bnl) (bcs (SOK_newE rfl (.inr kr) (.inl rfl)) (bcs (SOK_for (IOK_range X.ok eIt kr X.g_range (fun _ => star_Constant)) (GOK_name rfl inL) (bcs (SOK_if (TOK_cmp (cmp_ok _) (EOK_sub eW eV (fun _ _ => rfl)) eW rfl) (bcs (SOK_asg rfl inL (EOK_meth bm_index (fun _ _ _ h => index_ok h) eW (lC (EOK_sub eW eV (fun _ _ => rfl)) lnl) (plC pnl) (fun _ _ h => by cases h; exact pnl) dc (fun _ => rfl) rfl) (fun _ _ => rfl)) (bcs (SOK_setI rfl ⟨(.inr inL), by decide, by decide⟩ eV (EOK_tup (lC (EOK_bin (EOK_bin eIt (EOK_cmp (cmp_ok _) (EOK_bin (EOK_sub eW eV (fun _ _ => rfl)) eIt) eIt rfl)) (EOK_cmp (cmp_ok _) (EOK_bin (EOK_sub eW eV (fun _ _ => rfl)) eIt) eIt rfl)) (lC (EOK_sub eW eV (fun _ _ => rfl)) (lC (EOK_sub eW eV (fun _ _ => rfl)) lnl)))) (fun _ => rfl)) bnl)) bnl) bnl) (fun _ _ => rfl)) (bcs (SOK_new rfl inL lnl) (bcs (SOK_asg rfl inL (EOK_callIO X.ok rfl h_law_filled (LOKo_cons eV (LOKo_cons (EOK_lcomp (tg := ["place"]) (fr := []) (csB_ok kr) (IOK_range X.ok eIt kr X.g_range (fun _ => star_Constant)) (GOK_name rfl inL) TsOK_nil (EOK_tup (lC eV (lC (EOK_lst lnl) lnl))) (fun _ _ => rfl)) (LOKo_cons eW (LOKo_last rfl ⟨inL, dc, dc⟩) (fun _ => star_Name)) (fun _ => star_ListComp)) (fun _ => star_Name)) kr X.f_law_filled X.k_law_filled dc (plC (plC (plC (plC pnl)))) (plC (plC (plC pnl)))) (fun _ _ => rfl)) (bcs (SOK_asg rfl inL (EOK_tup (lC (EOK_callB X.ok (fun _ _ h => len_ok h) (lC eV lnl) kr X.g_len kr dc dc (plC pnl) pnl) (lC (EOK_callB X.ok (fun _ _ h => sum_ok h) (lC (EOK_lcomp (tg := ["place"]) (fr := [("rules", 8)]) (csB_ok kr) (IOK_list eV) (GOK_name rfl inL) TsOK_nil (EOK_sub (EOK_sub eW eV (fun _ _ => rfl)) eIt (fun _ _ => rfl)) (fun _ _ => rfl)) lnl) kr X.g_sum kr dc dc (plC pnl) pnl) (lC (EOK_callB X.ok (fun _ _ h => sum_ok h) (lC (EOK_lcomp (tg := ["place"]) (fr := []) (csB_ok kr) (IOK_list eV) (GOK_name rfl inL) TsOK_nil (EOK_bin eIt eV) (fun _ _ => rfl)) lnl) kr X.g_sum kr dc dc (plC pnl) pnl) (lC eIt (lC (EOK_dcomp (tg := ["place"]) (fr := [("words", 5), ("rules", 8)]) (csB_ok kr) (IOK_list eV) (GOK_name rfl inL) TsOK_nil (EOK_tup (lC (EOK_sub eW eV (fun _ _ => rfl)) (lC eV (lC (EOK_sub (EOK_sub eW eV (fun _ _ => rfl)) eIt (fun _ _ => rfl)) lnl)))) eIt (fun _ _ => rfl)) lnl)))))) (fun _ _ => rfl)) (bcs (SOK_ret (EOK_cmp eqC_ok eV (EOK_lst (lC (EOK_tup (lC (EOK_callF X.ok h_law_row (lC eV lnl) kr X.f_law_row X.k_law_row dc (plC pnl) pnl) (lC eV lnl))) lnl)) rfl)) bnl))))))))))))))))
end
section
variable {C : Cx} {k : Nat}
theorem fn_ok0 {fa : Addr} {fd : FuncData} {names rest : List Str} {f : FnF} {ds : List D} {d : D} (X : Pg C) (h1 : fdOf C.K fa = some fd) (h2 : defB fd = true) (h3 : codeIn C.K fd.code fd.qualname = true)
   (hb : ∀ vs : List Value, vs.length = names.length → bindArgs fd ⟨vs, []⟩ = pure (names.zip vs)) (hk : (names.all fun x => (scp fd).names.lookup x == some .local || (scp fd).names.lookup x == some .cell) = true) (hnd : (names ++ rest).Nodup)
   (hB : BOK C k (scp fd) (names ++ rest) (bdy fd) f) (hl : ds.length = names.length) (hf : ∃ fl σ', f (ds.map Slot.val ++ List.replicate rest.length Slot.non) = some (fl, σ') ∧ retD fl = some d) : FnOK C (k + 1) (.ref fa) ds d := by
 refine fn_ok (dv := []) (dd := []) X.ok (def_at X h1 h2 h3) (fun s vs _ hl => ?_) (fun _ => rfl) (fun x hx => ?_) hnd hB (by simpa using hl) (by simpa using hf)
 · rw [List.append_nil]
   exact BindsTo.of_eq (hb vs (by simpa using hl))
 · haveI := List.all_eq_true.mp hk x hx
   simpa using this
end
section
variable {C : Cx} {P W : Mp} {s : Shared} {A : Around} {k : Nat}
theorem fn_core {fa : Addr} {fd : FuncData} {body : List Stmt} {names rest : List Str} {f : FnF} {pos : List Value} {kw : List (Str × Value)} {vs : List Value} {ds : List D} {d : D} {Q : Value → Shared → Prop} (ok : C.OK) (X : DefAt C fa fd body)
   (hb : BindsTo s fd ⟨pos, kw⟩ (names.zip vs)) (hk : ∀ x ∈ names, fd.scope.names.lookup x = some .local ∨ fd.scope.names.lookup x = some .cell) (hnd : (names ++ rest).Nodup) (hB : BOK C k fd.scope (names ++ rest) body f) (hl : ds.length = names.length)
   (hf : ∃ fl σ', f (ds.map Slot.val ++ List.replicate rest.length Slot.non) = some (fl, σ') ∧ retD fl = some d) (Rm : Room (k + 1) A) (S : St C P W s) (r : Reps C P ds vs)
   (hQ : ∀ v P' s', P.Le P' → St C P' W s' → Rep C P' d v → Q v s') : wpAny C.M A (call (.ref fa) pos kw) Q NoE s := by
 refine Xeea hf fun fl σ' hf hr => ?_
 haveI hl1 := r.length
 have hl3 : names.length = vs.length := by lia
 have hnd1 : names.Nodup := (List.nodup_append.mp hnd).1
 refine wpAny_call (enter_def ok X hb hl3 hk hnd1 Rm S fun env W' F s' G fu Rm' S' V hW => ?_)
 haveI RE : RelEnv C (names ++ rest) env (ds.map Slot.val ++ List.replicate rest.length Slot.non) P W' F (fun x => (names.zip vs).lookup x) (fun _ => 0) :=
   ⟨V, hnd, by simp; omega, fun i x hx => Reps.vals hnd1 r hl3 i x hx, (fun i hi => by rw [noOwn] at hi; cases hi), (fun i j _ hi => by rw [noOwn] at hi; cases hi)⟩
 refine hB.go env _ P W' F _ _ s' _ σ' fl _ G fu Rm' S' RE hf fun fl' P2 W2 F2 vm2 own2 s2 S2 T2 R2 r2 => ?_
 exact hQ _ P2 s2 T2.p (S2.less fun a o e => T2.w a o (hW a o e).1 (hW a o e).2) (retD_rep hr r2)
theorem names_ok {sc : Scope} {names : List Str} (hk : (names.all fun x => sc.names.lookup x == some .local || sc.names.lookup x == some .cell) = true) : ∀ x ∈ names, sc.names.lookup x = some .local ∨ sc.names.lookup x = some .cell := fun x hx => by
 have := List.all_eq_true.mp hk x hx
 simpa using this
theorem seqE {f g : FnF} {σ σ1 : LS} {r : Option (Fl × LS)} (h : f σ = some (.next, σ1)) (h2 : g σ1 = r) : fSeq f g σ = r := by rw [fSeq, h]; exact h2
theorem seqR {f g : FnF} {σ σ1 : LS} {d : D} (h : f σ = some (.ret d, σ1)) : fSeq f g σ = some (.ret d, σ1) := by rw [fSeq, h]; rfl
theorem ifTr {t : FnB} {f g : FnF} {σ σ1 : LS} {c : Bool} {r : Option (Fl × LS)} (h : t σ = some (c, σ1)) (h2 : (if c = true then f σ1 else g σ1) = r) : fIf t f g σ = r := by rw [fIf, h]; exact h2
theorem truN {f : FnD} {σ σ1 : LS} (h : f σ = some (.none, σ1)) : fTru f σ = some (false, σ1) := by rw [fTru, h]; rfl
theorem conv_pure {v0 : Value} {x : Str} {b : Bool} (hx : okText x = true) (hl : x.length ≤ bigN) : ∃ σ', f_convert_string_type ([D.raw v0, D.str x, D.bool b].map Slot.val ++ List.replicate 1 Slot.non) = some (.ret (.str x), σ') := by
 cases b
 · exact ⟨_, seqR (ifTr (c := true) rfl (seqE rfl (seqE (ifTr (truN (if_pos ⟨hx, hl⟩)) rfl) (seqR rfl))))⟩
 · exact ⟨_, seqR (ifTr (c := true) rfl (seqE rfl (seqE (ifTr (truN (if_pos ⟨hx, hl⟩)) rfl) (seqR rfl))))⟩
theorem conv_ok (X : Pg C) : ConvOK C (k + 1) 70 := by
 intro A P W s v0 x t b Q Rm S hx hl hQ
 refine Xe (conv_pure (v0 := v0) (b := b) hx hl) fun σ' e => ?_
 refine fn_core (names := ["self", "value", "name"]) (rest := ["regex"]) (vs := [v0, .str x t, .bool b]) (ds := [.raw v0, .str x, .bool b]) X.ok (def_at X (X.fdx 1 rfl) kr (X.cdx 1 rfl)) ?_ (names_ok kr) dc (B_convert_string_type X) rfl ⟨_, σ', e, rfl⟩ Rm S ⟨_, _, rfl, rfl, _, _, rfl, ⟨t, rfl⟩, _, _, rfl, rfl, rfl⟩ hQ
 haveI hb : bindArgs f70 ⟨[v0, .str x t], [("name", .bool b)]⟩ = pure ((["self", "value", "name"] : List Str).zip [v0, .str x t, .bool b]) := by kernel_rfl
 generalize f70 = fd at hb ⊢
 exact BindsTo.of_eq hb
end
theorem lst1 {vs : List Value} (h : vs.length = 1) : ∃ a, vs = [a] := List.length_eq_one_iff.mp h
theorem lstS {n : Nat} {vs : List Value} (h : vs.length = n + 1) : ∃ a r, vs = a :: r ∧ r.length = n := by
 cases vs with
 | nil => cases (h)
 | cons a r => exact Ieea a r rfl (Nat.succ.inj h)
theorem lst2 {vs : List Value} (h : vs.length = 2) : ∃ a b, vs = [a, b] := by
 refine Xeea (lstS h) fun a r q2 hr => ?_; subst q2
 refine Xe (lst1 hr) fun b q1 => ?_; subst q1
 exact Iee a b rfl
theorem lst3 {vs : List Value} (h : vs.length = 3) : ∃ a b c, vs = [a, b, c] := by
 refine Xeea (lstS h) fun a r q2 hr => ?_; subst q2
 refine Xee (lst2 hr) fun b c q2 => ?_; subst q2
 exact Ieee a b c rfl
theorem lst4 {vs : List Value} (h : vs.length = 4) : ∃ a b c d, vs = [a, b, c, d] := by
 refine Xeea (lstS h) fun a r q2 hr => ?_; subst q2
 refine Xeee (lst3 hr) fun b c d q3 => ?_; subst q3
 exact Ieeee a b c d rfl
noncomputable def runD (n m : Nat) (f : FnF) (ds : List D) : Option D :=
 if ds.length = n then (f (ds.map Slot.val ++ List.replicate m Slot.non)).bind fun p => retD p.1 else none
noncomputable def runL (n m : Nat) (f : FnF) (ds xs : List D) : Option (D × List D) :=
 if ds.length = n then (f (putSl false (.ownL true xs) ds m)).bind fun p => (retD p.1).bind fun d => match p.2.getD n .non with
   | .ownL true ys => some (d, ys)
   | _ => none else none
noncomputable def runH (n m : Nat) (f : FnF) (xs ds : List D) : Option (D × List D) :=
 if ds.length = n then (f (putSl true (.ownH true xs) ds m)).bind fun p => (retD p.1).bind fun d => match p.2.getD 0 .non with
   | .ownH true ys => some (d, ys)
   | _ => none else none
section
variable {C : Cx} {k : Nat}
theorem FnOK.up {fv : Value} {ds : List D} {d : D} {k' : Nat} (h : FnOK C k fv ds d) (hk : k ≤ k') : FnOK C k' fv ds d := fun A P W L m s vs Q Rm => h A P W L m s vs Q (Rm.le hk)
theorem FnIO.up {fv : Value} {b : Bool} {ds : List D} {sl0 sl1 : Slot} {d : D} {k' : Nat} (h : FnIO C k fv b ds sl0 sl1 d) (hk : k ≤ k') : FnIO C k' fv b ds sl0 sl1 d := fun A P W s vs v0 b o0 Q Rm => h A P W s vs v0 b o0 Q (Rm.le hk)
theorem ConvOK.up {fa : Addr} {k' : Nat} (h : ConvOK C k fa) (hk : k ≤ k') : ConvOK C k' fa := fun A P W s v0 x t b Q Rm => h A P W s v0 x t b Q (Rm.le hk)
theorem InitOK.up {fi : Addr} {d : D} {xs : List D} {n : Bool} {k' : Nat} (h : InitOK C k fi d xs n) (hk : k ≤ k') : InitOK C k' fi d xs n := fun A P W s a dx v args R Rm => h A P W s a dx v args R (Rm.le hk)
theorem runD_some {n m : Nat} {f : FnF} {ds : List D} {d : D} (h : runD n m f ds = some d) : ds.length = n ∧ ∃ fl σ', f (ds.map Slot.val ++ List.replicate m Slot.non) = some (fl, σ') ∧ retD fl = some d := by
 unfold runD at h
 split at h
 · rename_i hl
   refine bs2 h fun fl σ' e1 e2 => ?_
   exact Iaeea hl fl σ' e1 e2
 · cases h
theorem runL_some {n m : Nat} {f : FnF} {ds xs : List D} {d : D} {ys : List D} (h : runL n m f ds xs = some (d, ys)) : ds.length = n ∧ ∃ fl σ', f (putSl false (.ownL true xs) ds m) = some (fl, σ') ∧ retD fl = some d ∧ σ'[n]? = some (.ownL true ys) := by
 unfold runL at h
 split at h
 · rename_i hl
   refine bs2 h fun fl σ' e1 e2 => ?_
   refine bs1 e2 fun d' e3 e4 => ?_
   refine Iaeea hl fl σ' e1 ?_
   dsimp only at e4
   split at e4
   · rename_i ys' q
     cases e4
     refine ⟨e3, ?_⟩
     rw [List.getD] at q
     cases w : σ'[n]? with
     | none => rw [w] at q; cases q
     | some y => rw [w] at q; cases q; rfl
   · cases e4
 · cases h
theorem runH_some {n m : Nat} {f : FnF} {ds xs : List D} {d : D} {ys : List D} (h : runH n m f xs ds = some (d, ys)) : ds.length = n ∧ ∃ fl σ', f (putSl true (.ownH true xs) ds m) = some (fl, σ') ∧ retD fl = some d ∧ σ'[0]? = some (.ownH true ys) := by
 unfold runH at h
 split at h
 · rename_i hl
   refine bs2 h fun fl σ' e1 e2 => ?_
   refine bs1 e2 fun d' e3 e4 => ?_
   refine Iaeea hl fl σ' e1 ?_
   dsimp only at e4
   split at e4
   · rename_i ys' q
     cases e4
     refine ⟨e3, ?_⟩
     rw [List.getD] at q
     cases w : σ'[0]? with
     | none => rw [w] at q; cases q
     | some y => rw [w] at q; cases q; rfl
   · cases e4
 · cases h
theorem fn_run {fa : Addr} {fd : FuncData} {names rest : List Str} {f : FnF} {ds : List D} {d : D} (X : Pg C) (h1 : fdOf C.K fa = some fd) (h2 : defB fd = true) (h3 : codeIn C.K fd.code fd.qualname = true)
   (hb : ∀ vs : List Value, vs.length = names.length → bindArgs fd ⟨vs, []⟩ = pure (names.zip vs)) (hk : (names.all fun x => (scp fd).names.lookup x == some .local || (scp fd).names.lookup x == some .cell) = true) (hnd : (names ++ rest).Nodup)
   (hB : BOK C k (scp fd) (names ++ rest) (bdy fd) f) (h : runD names.length rest.length f ds = some d) : FnOK C (k + 1) (.ref fa) ds d := by
 refine Xa (runD_some h) fun hl hf => ?_
 exact fn_ok0 X h1 h2 h3 hb hk hnd hB hl hf
theorem fn_runL {fa : Addr} {fd : FuncData} {names rest : List Str} {n : Nat} {f : FnF} {ds xs ys : List D} {d : D} (X : Pg C) (h1 : fdOf C.K fa = some fd) (h2 : defB fd = true) (h3 : codeIn C.K fd.code fd.qualname = true)
   (hb : ∀ vs : List Value, vs.length = names.length → bindArgs fd ⟨vs, []⟩ = pure (names.zip vs)) (hk : (names.all fun x => (scp fd).names.lookup x == some .local || (scp fd).names.lookup x == some .cell) = true) (hnd : (names ++ rest).Nodup) (hn : n + 1 = names.length)
   (hB : ∀ b, BOK (C.at b) k (scp fd) (names ++ rest) (bdy fd) f) (h : runL n rest.length f ds xs = some (d, ys)) : FnIO C (k + 1) (.ref fa) false ds (.ownL true xs) (.ownL true ys) d := by
 refine Xaeeaa (runL_some h) fun hl fl σ' e1 e2 e3 => ?_
 subst hl
 exact fnIO_ok X.ok (def_at X h1 h2 h3) (fun s vs hv => BindsTo.of_eq (hb vs hv)) (names_ok hk) hnd hB rfl rfl hn ⟨fl, σ', e1, e2, e3⟩
theorem fn_runH {fa : Addr} {fd : FuncData} {names rest : List Str} {n : Nat} {f : FnF} {ds xs ys : List D} {d : D} (X : Pg C) (h1 : fdOf C.K fa = some fd) (h2 : defB fd = true) (h3 : codeIn C.K fd.code fd.qualname = true)
   (hb : ∀ vs : List Value, vs.length = names.length → bindArgs fd ⟨vs, []⟩ = pure (names.zip vs)) (hk : (names.all fun x => (scp fd).names.lookup x == some .local || (scp fd).names.lookup x == some .cell) = true) (hnd : (names ++ rest).Nodup) (hn : n + 1 = names.length)
   (hB : ∀ b, BOK (C.at b) k (scp fd) (names ++ rest) (bdy fd) f) (h : runH n rest.length f xs ds = some (d, ys)) : FnIO C (k + 1) (.ref fa) true ds (.ownH true xs) (.ownH true ys) d := by
 refine Xaeeaa (runH_some h) fun hl fl σ' e1 e2 e3 => ?_
 subst hl
 exact fnIO_ok X.ok (def_at X h1 h2 h3) (fun s vs hv => BindsTo.of_eq (hb vs hv)) (names_ok hk) hnd hB rfl rfl hn ⟨fl, σ', e1, e2, e3⟩
noncomputable def g_ISNONTERMINAL (ds : List D) : Option D := runD 1 0 (f_ISNONTERMINAL) ds
theorem r_ISNONTERMINAL (X : Pg C) (ds : List D) (d : D) (h : g_ISNONTERMINAL ds = some d) : FnOK C (k + 1) (.ref 206) ds d := fn_run (names := ["x"]) (rest := []) X (X.fdx 8 rfl) kr (X.cdx 8 rfl) (fun vs hl => by refine Xe (lst1 hl) fun v0 q1 => ?_; subst q1; kernel_rfl) kr dc (B_ISNONTERMINAL X) h
noncomputable def g_law_shape (ds : List D) : Option D := runD 1 1 (f_law_shape) ds
theorem r_law_shape (X : Pg C) (ds : List D) (d : D) (h : g_law_shape ds = some d) : FnOK C (k + 1) (.ref 220) ds d := fn_run (names := ["number"]) (rest := ["shapes"]) X (X.fdx 10 rfl) kr (X.cdx 10 rfl) (fun vs hl => by refine Xe (lst1 hl) fun v0 q1 => ?_; subst q1; kernel_rfl) kr dc (B_law_shape X) h
noncomputable def g_law_sign (ds : List D) : Option D := runD 2 1 (f_law_sign) ds
theorem r_law_sign (X : Pg C) (ds : List D) (d : D) (h : g_law_sign ds = some d) : FnOK C (k + 1) (.ref 227) ds d := fn_run (names := ["number", "k"]) (rest := ["signs"]) X (X.fdx 11 rfl) kr (X.cdx 11 rfl) (fun vs hl => by refine Xee (lst2 hl) fun v0 v1 q2 => ?_; subst q2; kernel_rfl) kr dc (B_law_sign X) h
noncomputable def g_law_words (ds : List D) : Option D := runD 2 4 (f_law_words) ds
theorem r_law_words (X : Pg C) (ds : List D) (d : D) (h : g_law_words ds = some d) : FnOK C (k + 1) (.ref 241) ds d := fn_run (names := ["number", "signs"]) (rest := ["words", "left", "k", "figure"]) X (X.fdx 13 rfl) kr (X.cdx 13 rfl) (fun vs hl => by refine Xee (lst2 hl) fun v0 v1 q2 => ?_; subst q2; kernel_rfl) kr dc (B_law_words X) h
noncomputable def g_law_tree (ds : List D) : Option D := runD 1 2 (f_law_tree) ds
theorem r_law_tree (X : Pg C) (ds : List D) (d : D) (h : g_law_tree ds = some d) : FnOK C (k + 1) (.ref 248) ds d := fn_run (names := ["number"]) (rest := ["trees", "place"]) X (X.fdx 14 rfl) kr (X.cdx 14 rfl) (fun vs hl => by refine Xe (lst1 hl) fun v0 q1 => ?_; subst q1; kernel_rfl) kr dc (B_law_tree X) h
noncomputable def g_law_numbers (ds : List D) : Option D := runD 1 3 (f_law_numbers) ds
theorem r_law_numbers (X : Pg C) (ds : List D) (d : D) (h : g_law_numbers ds = some d) : FnOK C (k + 1) (.ref 213) ds d := fn_run (names := ["script"]) (rest := ["numbers", "k", "x"]) X (X.fdx 9 rfl) kr (X.cdx 9 rfl) (fun vs hl => by refine Xe (lst1 hl) fun v0 q1 => ?_; subst q1; kernel_rfl) kr dc (B_law_numbers X) h
noncomputable def g_count_calls (ds : List D) : Option D := runD 1 2 (f_count_calls) ds
theorem r_count_calls (X : Pg C) (ds : List D) (d : D) (h : g_count_calls ds = some d) : FnOK C (k + 1) (.ref 196) ds d := fn_run (names := ["callers"]) (rest := ["nc", "calls"]) X (X.fdx 7 rfl) kr (X.cdx 7 rfl) (fun vs hl => by refine Xe (lst1 hl) fun v0 q1 => ?_; subst q1; kernel_rfl) kr dc (B_count_calls X) h
noncomputable def g_add_callers (ds : List D) : Option D := runD 2 3 (f_add_callers) ds
theorem r_add_callers (X : Pg C) (ds : List D) (d : D) (h : g_add_callers ds = some d) : FnOK C (k + 1) (.ref 189) ds d := fn_run (names := ["target", "source"]) (rest := ["new_callers", "func", "caller"]) X (X.fdx 6 rfl) kr (X.cdx 6 rfl) (fun vs hl => by refine Xee (lst2 hl) fun v0 v1 q2 => ?_; subst q2; kernel_rfl) kr dc (B_add_callers X) h
noncomputable def g_add_func_stats (ds : List D) : Option D := runD 2 10 (f_add_func_stats g_add_callers) ds
theorem r_add_func_stats (X : Pg C) (ds : List D) (d : D) (h : g_add_func_stats ds = some d) : FnOK C (k + 2) (.ref 182) ds d := fn_run (names := ["target", "source"]) (rest := ["cc", "nc", "tt", "ct", "callers", "t_cc", "t_nc", "t_tt", "t_ct", "t_callers"]) X (X.fdx 5 rfl) kr (X.cdx 5 rfl) (fun vs hl => by refine Xee (lst2 hl) fun v0 v1 q2 => ?_; subst q2; kernel_rfl) kr dc (B_add_func_stats X _ (r_add_callers X)) h
noncomputable def g_law_text : Nat → List D → Option D
 | 0, _ => none
 | j + 1, ds => runD 2 0 (f_law_text (g_law_text j)) ds
theorem r_law_text (X : Pg C) (j : Nat) : ∀ (ds : List D) (d : D), g_law_text j ds = some d → FnOK C (k + j) (.ref 234) ds d := by
 induction j with
 | zero => intro ds d h; cases h
 | succ j ih => intro ds d h; exact fn_run (names := ["tree", "words"]) (rest := []) X (X.fdx 12 rfl) kr (X.cdx 12 rfl) (fun vs hl => by refine Xee (lst2 hl) fun v0 v1 q2 => ?_; subst q2; kernel_rfl) kr dc (B_law_text X _ ih) h
noncomputable def g_law_row : Nat → List D → Option D
 | 0, _ => none
 | j + 1, ds => runD 1 2 (f_law_row (g_law_row j)) ds
theorem r_law_row (X : Pg C) (j : Nat) : ∀ (ds : List D) (d : D), g_law_row j ds = some d → FnOK C (k + j) (.ref 269) ds d := by
 induction j with
 | zero => intro ds d h; cases h
 | succ j ih => intro ds d h; exact fn_run (names := ["value"]) (rest := ["row", "part"]) X (X.fdx 17 rfl) kr (X.cdx 17 rfl) (fun vs hl => by refine Xe (lst1 hl) fun v0 q1 => ?_; subst q1; kernel_rfl) kr dc (B_law_row X _ ih) h
noncomputable def g_FL : Nat → (List D → List D → Option (D × List D)) × (List D → List D → Option (D × List D))
 | 0 => (fun _ _ => none, fun _ _ => none)
 | j + 1 => (runL 3 0 (f_law_filled (g_FL j).1 (g_FL j).2), runL 3 2 (f_law_laid (g_FL j).1))
theorem r_FL (j : Nat) : ∀ {C : Cx} (X : Pg C), (∀ (ds xs : List D) (d : D) (xs' : List D), (g_FL j).1 ds xs = some (d, xs') → FnIO C (k + j) (.ref 262) false ds (.ownL true xs) (.ownL true xs') d) ∧ (∀ (ds xs : List D) (d : D) (xs' : List D), (g_FL j).2 ds xs = some (d, xs') → FnIO C (k + j) (.ref 255) false ds (.ownL true xs) (.ownL true xs') d) := by
 induction j with
 | zero => intro C X; refine ⟨fun ds xs d xs' h => ?_, fun ds xs d xs' h => ?_⟩ <;> cases h
 | succ j ih =>
   intro C X
   refine ⟨fun ds xs d xs' h => ?_, fun ds xs d xs' h => ?_⟩
   · exact fn_runL (names := ["tree", "parts", "rules", "done"]) (rest := []) X (X.fdx 16 rfl) kr (X.cdx 16 rfl) (fun vs hl => by refine Xeeee (lst4 hl) fun v0 v1 v2 v3 q4 => ?_; subst q4; kernel_rfl) kr dc rfl (fun b => B_law_filled (X.at b) _ _ (ih (X.at b)).1 (ih (X.at b)).2) h
   · exact fn_runL (names := ["left", "right", "rules", "done"]) (rest := ["place", "parts"]) X (X.fdx 15 rfl) kr (X.cdx 15 rfl) (fun vs hl => by refine Xeeee (lst4 hl) fun v0 v1 v2 v3 q4 => ?_; subst q4; kernel_rfl) kr dc rfl (fun b => B_law_laid (X.at b) _ (ih (X.at b)).1) h
noncomputable def g_get (xs ds : List D) : Option D := if ds.length = 1 then (f_get ((D.hdr xs :: ds ++ [D.none]).map Slot.val ++ List.replicate 2 Slot.non)).bind fun p => retD p.1 else none
theorem r_get (X : Pg C) (xs ds : List D) (d : D) (h : g_get xs ds = some d) : FnOK C (k + 2) (.ref 118) (.hdr xs :: ds) d := by
 unfold g_get at h
 split at h
 case isFalse => cases h
 rename_i hl
 refine bs2 h fun fl σ' e1 e2 => ?_
 refine fn_ok (names := ["self", "name", "default"]) (rest := ["k", "v"]) (dv := [.none]) (dd := [.none]) X.ok (def_at X (X.fdx 2 rfl) kr (X.cdx 2 rfl)) (fun s vs hK hl => ?_) (fun P => ⟨_, _, rfl, rfl, rfl⟩) (names_ok kr) dc (B_get X (conv_ok X)) (by simp [hl]) ⟨fl, σ', e1, e2⟩
 refine Xee (lst2 (by simpa using hl)) fun v0 v1 q2 => ?_; subst q2
 exact binds_K hK (T := 111) rfl X.d2 rfl rfl rfl
noncomputable def g_items (xs ds : List D) : Option (D × List D) := runH 0 0 f_items xs ds
theorem r_items (X : Pg C) (xs ds : List D) (d : D) (xs' : List D) (h : g_items xs ds = some (d, xs')) : FnIO C (k + 1) (.ref 135) true ds (.ownH true xs) (.ownH true xs') d :=
 fn_runH (names := ["self"]) (rest := []) X (X.fdx 3 rfl) kr (X.cdx 3 rfl) (fun vs hl => by refine Xe (lst1 hl) fun v0 q1 => ?_; subst q1; kernel_rfl) kr dc rfl (fun b => B_items (X.at b)) h
noncomputable def g_setdefault (xs ds : List D) : Option (D × List D) := runH 2 1 (f_setdefault g_get) xs ds
theorem r_setdefault (X : Pg C) (xs ds : List D) (d : D) (xs' : List D) (h : g_setdefault xs ds = some (d, xs')) : FnIO C (k + 3) (.ref 161) true ds (.ownH true xs) (.ownH true xs') d :=
 fn_runH (names := ["self", "name", "value"]) (rest := ["result"]) X (X.fdx 4 rfl) kr (X.cdx 4 rfl) (fun vs hl => by refine Xeee (lst3 hl) fun v0 v1 v2 q3 => ?_; subst q3; kernel_rfl) kr dc rfl (fun b => B_setdefault (X.at b) _ (r_get (X.at b)) (conv_ok (X.at b))) h
noncomputable def g_law_symbols (PP : Params) (ds : List D) : Option D := runD 2 0 (f_law_symbols PP g_get) ds
theorem r_law_symbols (X : Pg C) (ds : List D) (d : D) (h : g_law_symbols C.w.params ds = some d) : FnOK C (k + 3) (.ref 274) ds d := fn_run (names := ["text", "names"]) (rest := []) X (X.fdx 18 rfl) kr (X.cdx 18 rfl) (fun vs hl => by refine Xee (lst2 hl) fun v0 v1 q2 => ?_; subst q2; kernel_rfl) kr dc (B_law_symbols X _ (r_get X)) h
noncomputable def g_law_read (PP : Params) (ds : List D) : Option D := runD 3 6 (f_law_read g_ISNONTERMINAL g_get (g_law_symbols PP)) ds
theorem r_law_read (X : Pg C) (ds : List D) (d : D) (h : g_law_read C.w.params ds = some d) : FnOK C (k + 4) (.ref 279) ds d := fn_run (names := ["text", "book", "names"]) (rest := ["row", "leaves", "word", "symbol", "rule", "size"]) X (X.fdx 19 rfl) kr (X.cdx 19 rfl) (fun vs hl => by refine Xeee (lst3 hl) fun v0 v1 v2 q3 => ?_; subst q3; kernel_rfl) kr dc (B_law_read X _ _ _ (r_ISNONTERMINAL X) (r_get X) (r_law_symbols X)) h
noncomputable def g_law_steps (ds : List D) : Option D := runD 2 11 (f_law_steps g_ISNONTERMINAL) ds
theorem r_law_steps (X : Pg C) (ds : List D) (d : D) (h : g_law_steps ds = some d) : FnOK C (k + 2) (.ref 286) ds d := fn_run (names := ["row", "leaves"]) (rest := ["steps", "at", "place", "size", "parts", "stop", "k", "middle", "symbol", "begin", "need"]) X (X.fdx 20 rfl) kr (X.cdx 20 rfl) (fun vs hl => by refine Xee (lst2 hl) fun v0 v1 q2 => ?_; subst q2; kernel_rfl) kr dc (B_law_steps X _ (r_ISNONTERMINAL X)) h
end
section
variable {C : Cx} {k : Nat}
noncomputable def f_init1 : FnF := (fNewIf 1 (fCmp (cmpD .IsNot) (fv_ 1) (kq .none)) (fv_ 1))
noncomputable def f_init2 : FnF := (fIf (fCmp (cmpD .IsNot) (fTypeAt 1) (kq (.typ "list"))) (fSeq (fun _ => none) fBNil) fBNil)
noncomputable def f_init4 : FnF := (fIf (fTru (kq (.bool true))) (fSeq (fForS (fItL allTup (fv_ 1)) (gTup [2, 3]) (fSeq (fExp (fConv 0 (fv_ 2))) (fSeq (fExp (fConv 0 (fv_ 3))) fBNil))) fBNil) fBNil)
theorem init_run {d : D} {xs : List D} {new : Bool} (X : Pg C) (hd : ∀ P W s (v : Value) a args, St C P W s → Rep C P d v → (args = [v] ∨ (args = [] ∧ v = .none)) → BindsTo s f63 ⟨.ref a :: args, []⟩ [(sS, .ref a), (sH, v)])
   (h : ∀ a, ∃ σ1 σ2 fl3, f_init1 [.val (.raw (.ref a)), .val d, .non, .non] = some (.next, σ1) ∧ f_init2 σ1 = some (.next, σ2) ∧ σ2.getD 0 .non = .val (.raw (.ref a)) ∧ lstOf (σ2.getD 1 .non) = some xs ∧ f_init4 ((σ2.set 1 (.val (.list xs))).set 0 (.val (.inst a))) = some (.next, fl3) ∧ (new = true → (σ2.getD 1 .non).own = true)) : InitOK C (k + 2) 63 d xs new := by
 intro A P W s a dx v args R Rm S ha hdx hv hargs hR
 refine Xeeeaaaaa (h a) fun σ1 σ2 fl3 e1 e2 g0 g1 e4 hnew => ?_
 have hDA := def_at X (fa := 63) (X.fdx 0 rfl) kr (X.cdx 0 rfl)
 conv at hDA in bdy _ => whnf
 have h_conv : ConvOK C (k + 1) 70 := conv_ok X
 refine init_ok X.ok X.hi hDA (hd P W s v a args S hv hargs) ⟨by kernel_rfl, by kernel_rfl⟩
   (SOK_newIf rfl inL (TOK_cmp (cmp_ok _) eV EOK_none rfl) eV)
   (SOK_if (TOK_cmp (cmp_ok _) (EOK_typeAt X.ok rfl ⟨inL, dc, dc⟩ kr X.g_type kr) (EOK_btyp X.ok kr X.g_list kr dc dc) rfl) (bcs SOK_never bnl) bnl)
   (SOK_if (TOK_val EOK_bool (fun _ _ => rfl)) (bcs (SOK_for (IOK_listT eV) (GOK_tup (.cons rfl inL (.cons rfl inL .nil))) (bcs (SOK_exp (EOK_conv X.ok X.hf X.m_convert_string_type h_conv rfl ⟨inL, dc, dc⟩ eV (plC pnl) (fun _ => ⟨_, by with_unfolding_all rfl⟩) (fun _ => rfl)) (fun _ => rfl)) (bcs (SOK_exp (EOK_conv X.ok X.hf X.m_convert_string_type h_conv rfl ⟨inL, dc, dc⟩ eV (plC pnl) (fun _ => ⟨_, by with_unfolding_all rfl⟩) (fun _ => rfl)) (fun _ => rfl)) bnl)) (fun _ _ => rfl)) bnl) bnl) e1 e2 g0 g1 e4 Rm S ha hdx hv ?_
 intro P' s' l o us h1 h2 h3 h4 h5 h6 h7
 exact hR P' s' l o us h1 h2 h3 h4 h5 h6 fun q => h7 (hnew q)
end
section
variable {C : Cx} {k : Nat}
noncomputable def g_init (xs : List D) : Bool := xs.all fun d => match d with
 | .tup [.str a, .str b] => okText a && okText b && decide (a.length ≤ bigN) && decide (b.length ≤ bigN)
 | _ => false
theorem init_turns {a : Addr} {xs : List D} (h : g_init xs = true) (x1 x2 x3 : Slot) : ∃ y2 y3, fFor (gTup [2, 3]) (fSeq (fExp (fConv 0 (fv_ 2))) (fSeq (fExp (fConv 0 (fv_ 3))) fBNil)) xs [.val (.inst a), x1, x2, x3] = some (.next, [.val (.inst a), x1, y2, y3]) := by
 induction xs generalizing x2 x3 with
 | nil => exact Iee x2 x3 rfl
 | cons d xs ih =>
   unfold g_init at h
   rw [List.all_cons, Bool.and_eq_true] at h
   refine Xa h fun h1 h2 => ?_
   split at h1
   case h_2 => cases h1
   rename_i u v
   simp only [Bool.and_eq_true, decide_eq_true_eq] at h1
   refine Xa h1 fun w1 q4 => ?_; refine Xa w1 fun w2 q3 => ?_; refine Xa w2 fun q1 q2 => ?_
   refine Xee (ih h2 (.val (.str u)) (.val (.str v))) fun y2 y3 e => ?_
   refine Iee y2 y3 ?_
   rw [← e]
   simp [fFor, gTup, gNames, fSeq, fExp, fConv, selfAt, fv_, fBNil, q1, q2, q3, q4]
theorem init_list (X : Pg C) {xs : List D} (h : g_init xs = true) : InitOK C (k + 2) 63 (.list xs) xs false := by
 refine init_run X (fun P W s v a args S hv ha => ?_) fun a => ?_
 · rcases ha with rfl | ⟨rfl, rfl⟩
   · exact binds_K (X.ok.X.keeps S.keepH) (T := 56) rfl X.d1 rfl rfl rfl
   · refine Xeeea hv fun _ _ _ q _ => ?_
     cases q
 · refine Xee (init_turns (a := a) h (.val (.list xs)) .non .non) fun y2 y3 e => ?_
   haveI hall : allTup xs = true := by
     unfold allTup
     unfold g_init at h
     rw [List.all_eq_true] at h ⊢
     intro d hd
     have := h d hd
     split at this
     · rfl
     · cases this
   refine Ieeeaaaaa ([.val (.raw (.ref a)), .val (.list xs), .non, .non]) ([.val (.raw (.ref a)), .val (.list xs), .non, .non]) ([.val (.inst a), .val (.list xs), y2, y3]) rfl rfl rfl rfl ?_ (fun q => by cases q)
   show f_init4 [.val (.inst a), .val (.list xs), .non, .non] = some (.next, [.val (.inst a), .val (.list xs), y2, y3])
   unfold f_init4
   simp [fIf, fTru, truD, fSeq, fForS, fItL, fv_, fBNil, hall, e]
theorem init_none (X : Pg C) : InitOK C (k + 2) 63 .none [] true := by
 refine init_run X (fun P W s v a args S hv ha => ?_) fun a => ?_
 · obtain rfl : v = .none := hv
   rcases ha with rfl | ⟨rfl, _⟩
   · exact binds_K (X.ok.X.keeps S.keepH) (T := 56) rfl X.d1 rfl rfl rfl
   · exact binds_K (X.ok.X.keeps S.keepH) (T := 56) rfl X.d1 rfl rfl rfl
 · exact Ieeeaaaaa ([.val (.raw (.ref a)), .ownL false [], .non, .non]) ([.val (.raw (.ref a)), .ownL false [], .non, .non]) ([.val (.inst a), .val (.list []), .non, .non]) rfl rfl rfl rfl rfl (fun _ => rfl)
noncomputable def g_law_states (ds : List D) : Option D := runD 2 13 (f_law_states g_add_func_stats g_count_calls g_items g_law_steps g_setdefault) ds
theorem r_law_states (X : Pg C) (ds : List D) (d : D) (h : g_law_states ds = some d) : FnOK C (k + 4) (.ref 291) ds d :=
 fn_run (names := ["row", "leaves"]) (rest := ["table", "profiles", "ends", "k", "now", "profile", "steps", "name", "text", "place", "other", "total", "written"]) X (X.fdx 21 rfl) kr (X.cdx 21 rfl) (fun vs hl => by refine Xee (lst2 hl) fun v0 v1 q2 => ?_; subst q2; kernel_rfl) kr dc
   (B_law_states X _ _ _ _ _ (r_add_func_stats (k := k + 1) X) (r_count_calls (k := k + 2) X) (r_items (k := k + 2) X) (r_law_steps (k := k + 1) X) (r_setdefault X) (k + 2) rfl (init_none X)) h
noncomputable def F_law (PP : Params) : FnF := f_law g_init (g_FL 100).1 g_law_numbers (g_law_read PP) (g_law_row 100) g_law_shape g_law_sign g_law_states (g_law_text 100) g_law_tree g_law_words
theorem law_body (X : Pg C) : BOK C 100 (scp f296) ["script", "numbers", "shapes", "signs", "texts", "words", "tree", "names", "rules", "place", "done", "value", "due", "row", "leaves", "ends", "profiles", "k"] (bdy f296) (F_law C.w.params) :=
 B_law X _ _ _ _ _ _ _ _ _ _ _ (fun xs h => ⟨99, rfl, init_list (k := 97) X h⟩) (fun ds xs d xs' h => ((r_FL (k := 0) 100 X).1 ds xs d xs' h).up dc) (fun ds d h => (r_law_numbers (k := 0) X ds d h).up dc) (fun ds d h => (r_law_read (k := 0) X ds d h).up dc) (fun ds d h => (r_law_row (k := 0) X 100 ds d h).up dc) (fun ds d h => (r_law_shape (k := 0) X ds d h).up dc) (fun ds d h => (r_law_sign (k := 0) X ds d h).up dc) (fun ds d h => (r_law_states (k := 0) X ds d h).up dc) (fun ds d h => (r_law_text (k := 0) X 100 ds d h).up dc) (fun ds d h => (r_law_tree (k := 0) X ds d h).up dc) (fun ds d h => (r_law_words (k := 0) X ds d h).up dc)
end
noncomputable def LawPure (PP : Params) (script : List Int) : Prop := ∃ σ', F_law PP ([D.list (script.map D.int)].map Slot.val ++ List.replicate 17 Slot.non) = some (.ret (.bool true), σ')
theorem law_top {C : Cx} (X : Pg C) {A : Around} {P : Mp} {s : Shared} {script : List Int} {v : Value} {Q : Value → Shared → Prop} (hp : LawPure C.w.params script) (Rm : Room 101 A) (S : St C P (fun _ => none) s) (r : Rep C P (.list (script.map .int)) v)
   (hQ : ∀ P' s', P.Le P' → St C P' (fun _ => none) s' → Q (.bool true) s') : wpAny C.M A (call (.ref 296) [v]) Q NoE s := by
 refine Xe hp fun σ' e => ?_
 refine fn_core (names := ["script"]) (rest := ["numbers", "shapes", "signs", "texts", "words", "tree", "names", "rules", "place", "done", "value", "due", "row", "leaves", "ends", "profiles", "k"]) (vs := [v]) (ds := [.list (script.map .int)]) X.ok (def_at X (X.fdx 22 rfl) kr (X.cdx 22 rfl)) ?_ (names_ok kr) dc (law_body X) rfl ⟨_, σ', e, rfl⟩ Rm S ⟨v, [], rfl, r, rfl⟩ fun v P' s' hP S' rr => ?_
 · have hb : bindArgs f296 ⟨[v], []⟩ = pure ((["script"] : List Str).zip [v]) := by kernel_rfl
   generalize f296 = fd at hb ⊢
   exact BindsTo.of_eq hb
 · obtain rfl : v = .bool true := rr
   exact hQ P' s' hP S'
theorem ints_reps {C : Cx} {P : Mp} {Pp : Params} {h : Heap} {xs : List Int} : ∀ {vs : List Value}, WellAll Pp h vs (ofPys (xs.map PyData.int)) → Reps C P (xs.map .int) vs := by
 induction xs with
 | nil => intro vs h; cases h; rfl
 | cons x xs ih =>
   intro vs h
   change WellAll Pp _ vs (ofPy (.int x) :: ofPys (xs.map PyData.int)) at h
   cases h with
   | cons h1 h2 =>
     change Well Pp _ _ (.int x) at h1
     cases h1
     exact Ieeaa _ _ rfl ⟨_, rfl⟩ (ih h2)
theorem law_start {w : World} {s : Shared} {prog : Program} {p : Program} {loose : List Str} {mean : ExcName → Option Value} {mg mb : Str → Option Value} {fa l : Addr} {script : List Int} {Q E : Value → Shared → Prop} (hp : LawPure w.params script)
   {K : Params → Frag} (KX : (K w.params).In s.heap) (lo : ∃ a o, sysModules < a ∧ s.heap.get? a = some o) (pg : ∀ C : Cx, C.K = K C.w.params → C.hc = 171 → C.OK → Pg C) (T : Top p loose mean mg mb s.heap) (hmg : mg "law" = some (.ref fa)) (hW : Well w.params s.heap (.ref l) (ofPy (PyData.list (script.map PyData.int))))
   (hQ : ∀ s', s'.gens = s.gens → s'.os = s.os → (∀ a o, s.heap.get? a = some o → s'.heap.get? a = some o) → Q (.bool true) s') : wpAny (model prog w) callerA (call (.ref fa) [.ref l]) Q E s := by
 let C : Cx := { prog := prog, w := w, H := s.heap, s0 := s, K := K w.params, p := p, loose := loose, mean := mean, mg := mg, mb := mb, hc := 171, b0 := 0, lo := lo }
 have X : Pg C := pg C rfl rfl ⟨KX, T⟩
 have e1 : mg "law" = some (.ref 296) := mg_of X.ok.X X.ok.T.g X.f_law
 have e2 : fa = 296 := by
   rw [e1] at hmg
   cases hmg; rfl
 subst e2
 haveI S : St C (fun a => s.heap.get? a) (fun _ => none) s := ⟨rfl, rfl, rfl, fun _ _ e => e, fun _ _ e => e, fun _ _ e => by cases e⟩
 refine wpAny_mono (E := NoE) ?_ (fun _ _ h => h) (fun _ _ h => h.elim)
 refine law_top (C := C) X hp ⟨rfl, by decide, by decide⟩ S ?_ fun P' s' hP S' => hQ s' S'.gens S'.os fun a o e => S'.p _ _ (hP _ _ e)
 change Well _ _ _ (.list (ofPys (script.map PyData.int))) at hW
 cases hW with
 | list e h => exact Ieeeaaa l _ _ rfl e ⟨0, rfl⟩ (ints_reps h)
end Mine
end
section
namespace Mine
inductive Sq {T : Type} (R : Nat → T → T → Prop) : List Nat → T → T → Prop
 | nil {t} : Sq R [] t t
 | cons {a A t u v} : R a t u → Sq R A u v → Sq R (a :: A) t v
structure Lts {T : Type} (R : Nat → T → T → Prop) : Prop where
 det : ∀ {i t u v}, R i t u → R i t v → u = v
 dia : ∀ {i j t u v}, i ≠ j → R i t u → R j t v → ∃ w, R j u w ∧ R i v w
 once : ∀ {i A t u v}, R i t u → Sq R A u v → i ∉ A
 stab : ∀ {a b c t u v u' v'}, a ≠ b → c ≠ a → c ≠ b → R a t u → R b t v → R c u u' → R c v v' → ∃ w, R c t w
namespace Sq
variable {T : Type} {R : Nat → T → T → Prop} {A B : List Nat} {t u v w : T} {a b : Nat}
theorem append (h : Sq R A t u) (h' : Sq R B u v) : Sq R (A ++ B) t v := by
 induction h with
 | nil => exact h'
 | cons r _ ih => exact .cons r (ih h')
theorem snoc (h : Sq R A t u) (h' : R a u v) : Sq R (A ++ [a]) t v := h.append (.cons h' .nil)
end Sq
namespace Lts
variable {T : Type} {R : Nat → T → T → Prop} (L : Lts R) {A B C : List Nat} {t t1 u v w : T} {a b c : Nat}
include L
theorem nodup (h : Sq R A t u) : A.Nodup := by
 induction h with
 | nil => exact .nil
 | cons r s ih => exact List.nodup_cons.mpr ⟨L.once r s, ih⟩
theorem strip1 (h : R a t t1) (hB : Sq R B t v) : (a ∈ B ∧ Sq R (B.erase a) t1 v) ∨ (a ∉ B ∧ ∃ w, Sq R B t1 w ∧ R a v w) := by
 induction hB generalizing t1 with
 | nil => exact .inr ⟨List.not_mem_nil, _, .nil, h⟩
 | @cons b B t s v r s' ih =>
   by_cases e : b = a
   · subst e
     obtain rfl := L.det h r
     exact .inl ⟨List.mem_cons_self, by simpa using s'⟩
   · refine Xea (L.dia (Ne.symm e) h r) fun w h1 h2 => ?_
     rcases ih h2 with ⟨m, q⟩ | ⟨m, w', q, q'⟩
     · refine .inl ⟨List.mem_cons_of_mem _ m, ?_⟩
       rw [List.erase_cons_tail (by simpa using e)]
       exact .cons h1 q
     · exact .inr ⟨by simp [m, Ne.symm e], w', .cons h1 q, q'⟩
theorem strip (hA : Sq R A t u) (hB : Sq R B t v) : ∃ w A' B', Sq R B' u w ∧ Sq R A' v w ∧ (∀ x, x ∈ B' ↔ x ∈ B ∧ x ∉ A) ∧ (∀ x, x ∈ A' ↔ x ∈ A ∧ x ∉ B) := by
 induction hA generalizing B v with
 | nil => exact Ieeeaaa v ([]) B hB .nil (by simp) (by simp)
 | @cons a A t s u r s' ih =>
   have nB := L.nodup hB
   have nA : a ∉ A := L.once r s'
   rcases L.strip1 r hB with ⟨m, q⟩ | ⟨m, w1, q, q'⟩
   · refine Xeeeaaa (ih q) fun w A' B' h1 h2 h3 h4 => ?_
     refine Ieeeaaa w A' B' h1 h2 (fun x => ?_) (fun x => ?_)
     · rw [h3, List.Nodup.mem_erase_iff nB]
       simp only [List.mem_cons, not_or]
       constructor
       · rintro ⟨⟨h, h'⟩, h''⟩; exact ⟨h', h, h''⟩
       · rintro ⟨h', h, h''⟩; exact ⟨⟨h, h'⟩, h''⟩
     · rw [h4, List.Nodup.mem_erase_iff nB]
       simp only [List.mem_cons, not_and]
       constructor
       · rintro ⟨h, h'⟩
         exact ⟨.inr h, h' (by rintro rfl; exact nA h)⟩
       · rintro ⟨h | h, h'⟩
         · subst h; exact absurd m h'
         · exact ⟨h, fun _ => h'⟩
   · refine Xeeeaaa (ih q) fun w A' B' h1 h2 h3 h4 => ?_
     refine Ieeeaaa w (a :: A') B' h1 (.cons q' h2) (fun x => ?_) (fun x => ?_)
     · rw [h3]
       simp only [List.mem_cons, not_or]
       constructor
       · rintro ⟨h, h'⟩; exact ⟨h, by rintro rfl; exact m h, h'⟩
       · rintro ⟨h, _, h'⟩; exact ⟨h, h'⟩
     · simp only [List.mem_cons, h4]
       constructor
       · rintro (h | ⟨h, h'⟩)
         · subst h; exact ⟨.inl rfl, m⟩
         · exact ⟨.inr h, h'⟩
       · rintro ⟨h | h, h'⟩
         · exact .inl h
         · exact .inr ⟨h, h'⟩
omit L in
theorem nil_of {A : List Nat} (h : ∀ x, x ∉ A) : A = [] := List.eq_nil_iff_forall_not_mem.mpr h
theorem same (hA : Sq R A t u) (hB : Sq R B t v) (h : ∀ x, x ∈ A ↔ x ∈ B) : u = v := by
 refine Xeeeaaa (L.strip hA hB) fun w A' B' h1 h2 h3 h4 => ?_
 obtain rfl : A' = [] := nil_of fun x hx => by rw [h4, h] at hx; exact hx.2 hx.1
 obtain rfl : B' = [] := nil_of fun x hx => by rw [h3, h] at hx; exact hx.2 hx.1
 cases h1; cases h2; rfl
theorem union (hA : Sq R A t u) (hB : Sq R B t v) : ∃ D w, Sq R D t w ∧ ∀ x, x ∈ D ↔ x ∈ A ∨ x ∈ B := by
 refine Xeeeaaa (L.strip hA hB) fun w A' B' h1 h2 h3 h4 => ?_
 refine Ieea _ w (hA.append h1) (fun x => ?_)
 rw [List.mem_append, h3]
 by_cases hx : x ∈ A <;> simp [hx]
theorem atEnd (hA : Sq R A t u) (hB : Sq R B t v) (hu : ∀ i w, ¬ R i u w) : ∀ x, x ∈ B → x ∈ A := by
 refine Xeeeaaa (L.strip hA hB) fun w A' B' h1 h2 h3 h4 => ?_
 intro x hx
 by_cases h : x ∈ A
 · exact h
 have : x ∈ B' := (h3 x).mpr ⟨hx, h⟩
 cases h1 with
 | nil => cases this
 | cons r _ => exact absurd r (hu _ _)
theorem free (h : R a t t1) (hc : ∃ x, R c t1 x) (hB : Sq R B t v) (ha : a ∉ B) (hcB : c ∈ B) (hca : c ≠ a) : ∃ w, R c t w := by
 induction hB generalizing t1 with
 | nil => cases hcB
 | @cons b B t s v r s' ih =>
   by_cases e : c = b
   · subst e; exact ⟨_, r⟩
   have hab : a ≠ b := by rintro rfl; exact ha List.mem_cons_self
   refine Xea (L.dia hab h r) fun w h1 h2 => ?_
   refine Xe hc fun x hx => ?_
   refine Xea (L.dia (fun q => e q.symm) h1 hx) fun y h3 h4 => ?_
   have hcB' : c ∈ B := by rcases List.mem_cons.mp hcB with h | h; exact absurd h e; exact h
   refine Xe (ih h2 ⟨y, h3⟩ (fun q => ha (List.mem_cons_of_mem _ q)) hcB') fun z hz => ?_
   exact L.stab hab hca e h r hx hz
theorem without (h : R a t t1) (hC : Sq R C t1 w) (hB : Sq R B t v) (ha : a ∉ B) (hCB : ∀ x ∈ C, x ∈ B) : ∃ w', Sq R C t w' := by
 induction hC generalizing t B with
 | nil => exact ⟨t, .nil⟩
 | @cons c C t1 t2 w r s ih =>
   have hcB := hCB c List.mem_cons_self
   have hca : c ≠ a := by rintro rfl; exact ha hcB
   refine Xe (L.free h ⟨_, r⟩ hB ha hcB hca) fun x hx => ?_
   refine Xea (L.dia (Ne.symm hca) h hx) fun y h1 h2 => ?_
   obtain rfl := L.det r h1
   rcases L.strip1 hx hB with ⟨m, q⟩ | ⟨m, _⟩
   · haveI nc : c ∉ C := L.once r s
     refine Xe (ih h2 q (fun q => ha (List.mem_of_mem_erase q)) fun z hz => (List.Nodup.mem_erase_iff (L.nodup hB)).mpr ⟨by rintro rfl; exact nc hz, hCB z (List.mem_cons_of_mem _ hz)⟩) fun w' hw => ?_
     exact ⟨w', .cons hx hw⟩
   · exact absurd hcB m
theorem inter (hA : Sq R A t u) (hB : Sq R B t v) : ∃ D w, Sq R D t w ∧ ∀ x, x ∈ D ↔ x ∈ A ∧ x ∈ B := by
 induction hA generalizing B v with
 | nil => exact Ieea ([]) _ .nil (by simp)
 | @cons a A t s u r s' ih =>
   haveI nB := L.nodup hB
   have nA : a ∉ A := L.once r s'
   rcases L.strip1 r hB with ⟨m, q⟩ | ⟨m, w1, q, q'⟩
   · refine Xeea (ih q) fun D w h1 h2 => ?_
     refine Ieea (a :: D) w (.cons r h1) (fun x => ?_)
     simp only [List.mem_cons, h2, List.Nodup.mem_erase_iff nB]
     constructor
     · rintro (h | ⟨h, _, h'⟩)
       · subst h; exact ⟨.inl rfl, m⟩
       · exact ⟨.inr h, h'⟩
     · rintro ⟨h | h, h'⟩
       · exact .inl h
       · exact .inr ⟨h, by rintro rfl; exact nA h, h'⟩
   · refine Xeea (ih q) fun D w h1 h2 => ?_
     refine Xe (L.without r h1 hB m fun x hx => ((h2 x).mp hx).2) fun w' h3 => ?_
     refine Ieea D w' h3 (fun x => ?_)
     rw [h2]
     simp only [List.mem_cons]
     constructor
     · rintro ⟨h, h'⟩; exact ⟨.inr h, h'⟩
     · rintro ⟨h | h, h'⟩
       · subst h; exact absurd h' m
       · exact ⟨h, h'⟩
end Lts
inductive Tr
 | lf (i : Nat)
 | ap (l r : Tr)
namespace Tr
noncomputable def apps (h : Tr) (xs : List Tr) : Tr := xs.foldl ap h
noncomputable def leaves : Tr → List Nat
 | lf i => [i]
 | ap l r => l.leaves ++ r.leaves
noncomputable def fill (xs : List Tr) : Tr → Tr
 | lf j => xs.getD j (lf 0)
 | ap l r => ap (l.fill xs) (r.fill xs)
noncomputable def head : Tr → Nat
 | lf i => i
 | ap l _ => l.head
noncomputable def cnt (c : Nat) : Tr → Nat → Option Nat
 | lf j, k => if j = c then some k else none
 | ap l r, k => (cnt c l (k + 1)).or (cnt c r 0)
noncomputable def par (c : Nat) : Tr → Option Nat → Option Nat
 | lf j, p => if j = c then p else none
 | ap l r, p => (par c l p).or (par c r (some l.head))
theorem apps_nil {h : Tr} : apps h [] = h := rfl
theorem apps_cons {h x : Tr} {xs : List Tr} : apps h (x :: xs) = apps (ap h x) xs := rfl
theorem apps_append {h : Tr} {xs ys : List Tr} : apps h (xs ++ ys) = apps (apps h xs) ys := by simp [apps, List.foldl_append]
theorem apps_snoc {h x : Tr} {xs : List Tr} : apps h (xs ++ [x]) = ap (apps h xs) x := by simp [apps_append, apps]
theorem leaves_apps {h : Tr} {xs : List Tr} : (apps h xs).leaves = h.leaves ++ (xs.map leaves).flatten := by
 induction xs generalizing h with
 | nil => simp [apps]
 | cons x xs ih => simp [apps_cons, ih, leaves]
theorem cnt_none {c : Nat} {t : Tr} (h : c ∉ t.leaves) (k : Nat) : cnt c t k = none := by
 induction t generalizing k with
 | lf i => simp [leaves] at h; simp [cnt, Ne.symm h]
 | ap l r hl hr => simp [leaves] at h; simp [cnt, hl h.1, hr h.2]
theorem cnt_some {c : Nat} {t : Tr} (h : c ∈ t.leaves) (k : Nat) : ∃ m, cnt c t k = some m := by
 induction t generalizing k with
 | lf i => simp [leaves] at h; simp [cnt, h]
 | ap l r hl hr =>
   simp [leaves] at h
   by_cases q : c ∈ l.leaves
   · refine Xe (hl q (k + 1)) fun m e => ?_; exact ⟨m, by simp [cnt, e]⟩
   · refine Xe (hr (h.resolve_left q) 0) fun m e => ?_; exact ⟨m, by simp [cnt, cnt_none q, e]⟩
theorem cnt_l {c : Nat} {l r : Tr} (h : c ∈ l.leaves) (k : Nat) : cnt c (ap l r) k = cnt c l (k + 1) := by
 refine Xe (cnt_some h (k + 1)) fun m e => ?_; simp [cnt, e]
theorem cnt_r {c : Nat} {l r : Tr} (h : c ∉ l.leaves) (k : Nat) : cnt c (ap l r) k = cnt c r 0 := by simp [cnt, cnt_none h]
theorem par_none {c : Nat} {t : Tr} (h : c ∉ t.leaves) (p : Option Nat) : par c t p = none := by
 induction t generalizing p with
 | lf i => simp [leaves] at h; simp [par, Ne.symm h]
 | ap l r hl hr => simp [leaves] at h; simp [par, hl h.1, hr h.2]
theorem head_mem {t : Tr} : t.head ∈ t.leaves := by
 induction t with
 | lf i => simp [head, leaves]
 | ap l r hl hr => simp [head, leaves, hl]
theorem head_apps {h : Tr} {xs : List Tr} : (apps h xs).head = h.head := by
 induction xs generalizing h with
 | nil => rfl
 | cons x xs ih => simp [apps_cons, ih, head]
end Tr
section
open Tr
structure Ru where
 n : Nat → Nat
 S : Nat → Tr
 lin : ∀ i, 0 < n i → (S i).leaves.Perm (List.range (n i))
inductive Red (ru : Ru) (i : Nat) : Tr → Tr → Prop
 | hd {xs} : 0 < ru.n i → xs.length = ru.n i → Red ru i (apps (.lf i) xs) (fill xs (ru.S i))
 | l {l l' r} : Red ru i l l' → Red ru i (.ap l r) (.ap l' r)
 | r {l r r'} : Red ru i r r' → Red ru i (.ap l r) (.ap l r')
variable {ru : Ru} {i j c a b : Nat} {t u v : Tr}
theorem leaves_fill {xs : List Tr} {s : Tr} : (fill xs s).leaves = (s.leaves.map fun j => (xs.getD j (.lf 0)).leaves).flatten := by
 induction s with
 | lf j => simp [fill, leaves]
 | ap l r hl hr => simp [fill, leaves, hl, hr]
theorem range_getD {xs : List Tr} : ((List.range xs.length).map fun j => (xs.getD j (.lf 0)).leaves) = xs.map leaves := by
 apply List.ext_getElem
 · simp
 · intro k h1 h2
   simp at h1
   simp [h1]
theorem leaves_fillP {xs : List Tr} {s : Tr} {n : Nat} (h : s.leaves.Perm (List.range n)) (hl : xs.length = n) : (fill xs s).leaves.Perm (xs.map leaves).flatten := by
 rw [leaves_fill, ← range_getD, hl]
 exact (h.map _).flatten
theorem Red.leaves (h : Red ru i t u) : t.leaves.Perm (i :: u.leaves) := by
 induction h with
 | @hd xs h0 hl => rw [leaves_apps]; exact ((leaves_fillP (ru.lin i h0) hl).symm.cons i)
 | l _ ih => simp only [Tr.leaves]; exact (ih.append_right _)
 | r _ ih => simp only [Tr.leaves]; exact (ih.append_left _).trans List.perm_middle
theorem Red.pos (h : Red ru i t u) : 0 < ru.n i := by
 induction h <;> assumption
theorem Red.mem (h : Red ru i t u) : i ∈ t.leaves := h.leaves.symm.subset List.mem_cons_self
theorem Red.apps (h : Red ru i t u) (xs : List Tr) : Red ru i (t.apps xs) (u.apps xs) := by
 induction xs generalizing t u with
 | nil => exact h
 | cons x xs ih => exact ih (.l h)
theorem cnt_apps {h : Tr} {xs : List Tr} (hc : c ∈ h.leaves) (k : Nat) : cnt c (h.apps xs) k = cnt c h (k + xs.length) := by
 induction xs generalizing h with
 | nil => rfl
 | cons x xs ih =>
   rw [apps_cons, ih (by simp [Tr.leaves, hc]), cnt_l hc]
   simp [Nat.add_assoc, Nat.add_comm]
theorem Red.cnt (h : Red ru i t u) (hn : t.leaves.Nodup) (k : Nat) : ∃ m, cnt i t k = some m ∧ ru.n i ≤ m := by
 induction h generalizing k with
 | @hd xs h0 hl => exact Iea (k + xs.length) (by rw [cnt_apps (by simp [Tr.leaves])]; simp [Tr.cnt]) (by lia)
 | @l l l' r h ih =>
   simp only [Tr.leaves, List.nodup_append] at hn
   rw [cnt_l h.mem]
   exact ih hn.1 _
 | @r l r r' h ih =>
   simp only [Tr.leaves, List.nodup_append] at hn
   rw [cnt_r fun q => hn.2.2 _ q _ h.mem rfl]
   exact ih hn.2.1 _
theorem red_of {m k : Nat} (h0 : 0 < ru.n i) (h : cnt i t k = some m) (hm : ru.n i ≤ m) : ∀ xs, xs.length = k → ∃ u, Red ru i (t.apps xs) u := by
 induction t generalizing k m with
 | lf j =>
   intro xs hx
   simp only [Tr.cnt] at h
   split at h
   case isFalse => cases h
   rename_i e
   cases h; subst e
   rw [← List.take_append_drop (ru.n j) xs, apps_append]
   exact ⟨_, Red.apps (.hd h0 (by simp; lia)) _⟩
 | ap l r hl hr =>
   intro xs hx
   simp only [Tr.cnt] at h
   cases e : Tr.cnt i l (k + 1) with
   | some m' =>
     rw [e] at h
     cases h
     exact hl e hm (r :: xs) (by simp [hx])
   | none =>
     rw [e] at h
     refine Xe (hr (k := 0) h hm [] rfl) fun u hu => ?_
     exact ⟨_, Red.apps (.r hu) xs⟩
end
section
open Tr
variable {ru : Ru} {i j c a b : Nat} {t u v : Tr}
theorem revInd {α : Type} {P : List α → Prop} (nil : P []) (snoc : ∀ xs x, P xs → P (xs ++ [x])) (xs : List α) : P xs := by
 rw [← List.reverse_reverse xs]
 induction xs.reverse with
 | nil => exact nil
 | cons x xs ih => rw [List.reverse_cons]; exact snoc _ _ ih
theorem apps_ap {h l r : Tr} {xs : List Tr} (e : h.apps xs = .ap l r) (hh : ∀ a b, h ≠ .ap a b) : ∃ ys, xs = ys ++ [r] ∧ l = h.apps ys := by
 rcases List.eq_nil_or_concat xs with rfl | ⟨ys, y, rfl⟩
 · exact absurd e (hh _ _)
 · rw [List.concat_eq_append, apps_snoc] at e
   cases e
   exact Iea ys (by simp) rfl
theorem cnt_hd {xs : List Tr} {k : Nat} : cnt i ((lf i).apps xs) k = some (k + xs.length) := by
 rw [cnt_apps (by simp [Tr.leaves])]; simp [Tr.cnt]
theorem red_in {xs : List Tr} (h : Red ru j ((lf i).apps xs) u) (hn : ((lf i).apps xs).leaves.Nodup) (hij : j ≠ i) : ∃ A x x' B, xs = A ++ x :: B ∧ u = (lf i).apps (A ++ x' :: B) ∧ Red ru j x x' := by
 induction xs using revInd generalizing u with
 | nil =>
   exfalso
   haveI := h.mem
   simp [apps, Tr.leaves] at this
   exact hij this
 | snoc xs x ih =>
   rw [apps_snoc] at h hn
   generalize e : Tr.ap ((lf i).apps xs) x = t at h
   cases h with
   | @hd ys h0 hl =>
     exfalso
     have : ((lf j).apps ys).head = i := by rw [← e]; simp [Tr.head, head_apps]
     rw [head_apps] at this
     exact hij this
   | @l l l' r h =>
     injection e with e1 e2
     subst e1 e2
     simp only [Tr.leaves, List.nodup_append] at hn
     refine Xeeeeaa (ih h hn.1) fun A y y' B q4 q5 h2 => ?_; subst q4; subst q5
     exact Ieeeeaa A y y' (B ++ [x]) (by simp) (by rw [← apps_snoc]; simp) h2
   | @r l r r' h =>
     injection e with e1 e2
     subst e1 e2
     exact Ieeeeaa xs x r' ([]) rfl (by rw [apps_snoc]) h
theorem red_fill {A B : List Tr} {x x' s : Tr} (h : Red ru j x x') (hs : s.leaves.Nodup) (hm : A.length ∈ s.leaves) : Red ru j (fill (A ++ x :: B) s) (fill (A ++ x' :: B) s) := by
 have same : ∀ s : Tr, A.length ∉ s.leaves → fill (A ++ x :: B) s = fill (A ++ x' :: B) s := by
   intro s hs
   induction s with
   | lf k =>
     simp [Tr.leaves] at hs
     simp only [fill]
     rcases Nat.lt_or_ge k A.length with h | h
     · simp [List.getD, List.getElem?_append_left h]
     · obtain ⟨m, hm⟩ : ∃ m, k - A.length = m + 1 := ⟨_, sub_S (Nat.lt_of_le_of_ne h hs)⟩
       simp [List.getD, List.getElem?_append_right h, hm]
   | ap l r hl hr => simp [Tr.leaves] at hs; simp only [fill]; rw [hl hs.1, hr hs.2]
 induction s with
 | lf k =>
   simp [Tr.leaves] at hm
   subst hm
   simpa [fill, List.getD] using h
 | ap l r hl hr =>
   simp only [Tr.leaves, List.nodup_append] at hs
   simp only [Tr.leaves, List.mem_append] at hm
   simp only [fill]
   by_cases q : A.length ∈ l.leaves
   · rw [same r fun q' => hs.2.2 _ q _ q' rfl]
     exact .l (hl hs.1 q)
   · rw [same l q]
     exact .r (hr hs.2.1 (hm.resolve_left q))
theorem Red.det (hn : t.leaves.Nodup) (h : Red ru i t u) (h' : Red ru i t v) : u = v := by
 have key : ∀ xs : List Tr, ∀ w, xs.length = ru.n i → ((lf i).apps xs).leaves.Nodup → Red ru i ((lf i).apps xs) w → w = fill xs (ru.S i) := by
   intro xs w hl hn h
   generalize e : (lf i).apps xs = t at h hn
   cases h with
   | @hd ys h0 hl' =>
     haveI : xs = ys := by
       clear hn
       have : ∀ (xs ys : List Tr), xs.length = ys.length → ∀ h h' : Tr, h.apps xs = h'.apps ys → xs = ys := by
         intro xs
         induction xs using revInd with
         | nil => intro ys q; simp at q; intro _ _ _; simp [List.length_eq_zero_iff.mp q.symm]
         | snoc xs x ih =>
           intro ys q h h' e
           rcases List.eq_nil_or_concat ys with rfl | ⟨zs, z, rfl⟩
           · simp at q
           · rw [List.concat_eq_append, apps_snoc, apps_snoc] at e
             injection e with e1 e2
             rw [ih zs (by simpa using q) _ _ e1, e2]; simp
       exact this _ _ (by lia) _ _ e
     rw [this]
   | @l l l' r h =>
     exfalso
     refine Xea (apps_ap e (by intro a b q; cases q)) fun ys q1 q2 => ?_; subst q1; subst q2
     simp only [Tr.leaves, List.nodup_append] at hn
     refine Xea (h.cnt hn.1 0) fun m h1 h2 => ?_
     rw [cnt_hd] at h1
     cases h1
     simp at hl
     omega
   | @r l r r' h =>
     exfalso
     refine Xea (apps_ap e (by intro a b q; cases q)) fun ys q1 q2 => ?_; subst q1; subst q2
     simp only [Tr.leaves, List.nodup_append] at hn
     refine hn.2.2 i ?_ i h.mem rfl
     rw [leaves_apps]; simp [Tr.leaves]
 induction h generalizing v with
 | @hd xs h0 hl => exact (key _ _ hl hn h').symm
 | @l l l' r h ih =>
   generalize e : Tr.ap l r = t at h' hn
   cases h' with
   | @hd ys h0 hl =>
     exact key ys _ hl hn (by rw [← e]; exact .l h)
   | @l l1 l1' r1 h1 =>
     cases e
     simp only [Tr.leaves, List.nodup_append] at hn
     rw [ih hn.1 h1]
   | @r l1 r1 r1' h1 =>
     cases e
     simp only [Tr.leaves, List.nodup_append] at hn
     exact absurd rfl (hn.2.2 i h.mem i h1.mem)
 | @r l r r' h ih =>
   generalize e : Tr.ap l r = t at h' hn
   cases h' with
   | @hd ys h0 hl =>
     exact key ys _ hl hn (by rw [← e]; exact .r h)
   | @l l1 l1' r1 h1 =>
     cases e
     simp only [Tr.leaves, List.nodup_append] at hn
     exact absurd rfl (hn.2.2 i h1.mem i h.mem)
   | @r l1 r1 r1' h1 =>
     cases e
     simp only [Tr.leaves, List.nodup_append] at hn
     rw [ih hn.2.1 h1]
end
section
open Tr
variable {ru : Ru} {i j c a b : Nat} {t u v : Tr}
theorem nd_l {l r : Tr} (h : (Tr.ap l r).leaves.Nodup) : l.leaves.Nodup := by simp only [Tr.leaves, List.nodup_append] at h; exact h.1
theorem nd_r {l r : Tr} (h : (Tr.ap l r).leaves.Nodup) : r.leaves.Nodup := by simp only [Tr.leaves, List.nodup_append] at h; exact h.2.1
theorem nd_x {l r : Tr} (h : (Tr.ap l r).leaves.Nodup) {x : Nat} (h1 : x ∈ l.leaves) : x ∉ r.leaves := by simp only [Tr.leaves, List.nodup_append] at h; exact fun q => h.2.2 _ h1 _ q rfl
theorem Red.nd (h : Red ru i t u) (hn : t.leaves.Nodup) : u.leaves.Nodup := (List.nodup_cons.mp ((h.leaves.nodup_iff).mp hn)).2
theorem Red.gone (h : Red ru i t u) (hn : t.leaves.Nodup) : i ∉ u.leaves := (List.nodup_cons.mp ((h.leaves.nodup_iff).mp hn)).1
theorem dia_hd {xs : List Tr} (hij : j ≠ i) (h0 : 0 < ru.n i) (hl : xs.length = ru.n i) (hn : ((lf i).apps xs).leaves.Nodup) (h : Red ru j ((lf i).apps xs) v) : ∃ w, Red ru j (fill xs (ru.S i)) w ∧ Red ru i v w := by
 refine Xeeeeaa (red_in h hn hij) fun A x x' B q4 q5 h2 => ?_; subst q4; subst q5
 haveI hp := ru.lin i h0
 refine Iea _ (red_fill h2 (hp.nodup_iff.mpr List.nodup_range) (hp.symm.subset (List.mem_range.mpr (by rw [← hl]; simp)))) (.hd h0 (by rw [← hl]; simp))
theorem Red.dia (hij : i ≠ j) (hn : t.leaves.Nodup) (h : Red ru i t u) (h' : Red ru j t v) : ∃ w, Red ru j u w ∧ Red ru i v w := by
 induction h generalizing v with
 | @hd xs h0 hl => exact dia_hd hij.symm h0 hl hn h'
 | @l l l' r h ih =>
   generalize e : Tr.ap l r = t at h' hn
   cases h' with
   | @hd ys h0 hl =>
     refine Xea (dia_hd (v := .ap l' r) hij h0 hl hn (by rw [← e]; exact .l h)) fun w h1 h2 => ?_
     exact Iea w h2 h1
   | @l l1 l1' r1 h1 =>
     cases e
     refine Xea (ih (nd_l hn) h1) fun w h2 h3 => ?_
     exact Iea _ (.l h2) (.l h3)
   | @r l1 r1 r1' h1 =>
     cases e
     exact Iea _ (.r h1) (.l h)
 | @r l r r' h ih =>
   generalize e : Tr.ap l r = t at h' hn
   cases h' with
   | @hd ys h0 hl =>
     refine Xea (dia_hd (v := .ap l r') hij h0 hl hn (by rw [← e]; exact .r h)) fun w h1 h2 => ?_
     exact Iea w h2 h1
   | @l l1 l1' r1 h1 =>
     cases e
     exact Iea _ (.l h1) (.r h)
   | @r l1 r1 r1' h1 =>
     cases e
     refine Xea (ih (nd_r hn) h1) fun w h2 h3 => ?_
     exact Iea _ (.r h2) (.r h3)
theorem cnt_flat (h : c ∈ t.leaves) (hh : t.head ≠ c) (k k' : Nat) : cnt c t k = cnt c t k' := by
 induction t generalizing k k' with
 | lf j => simp [Tr.leaves] at h; exact absurd h.symm hh
 | ap l r hl hr =>
   by_cases q : c ∈ l.leaves
   · rw [cnt_l q, cnt_l q]; exact hl q hh _ _
   · rw [cnt_r q, cnt_r q]
theorem mem_apps {h : Tr} {xs : List Tr} : c ∈ (h.apps xs).leaves ↔ c ∈ h.leaves ∨ ∃ x ∈ xs, c ∈ x.leaves := by
 rw [leaves_apps, List.mem_append]
 refine or_congr Iff.rfl ⟨fun h => ?_, fun ⟨x, h1, h2⟩ => List.mem_flatten.mpr ⟨_, List.mem_map.mpr ⟨x, h1, rfl⟩, h2⟩⟩
 refine Xea (List.mem_flatten.mp h) fun l h1 h2 => ?_
 refine Xea (List.mem_map.mp h1) fun x h3 q2 => ?_; subst q2
 exact Iea x h3 h2
theorem par_r {l r : Tr} (h : c ∉ l.leaves) (p : Option Nat) : par c (.ap l r) p = par c r (some l.head) := by simp [par, par_none h]
theorem par_head (p : Option Nat) : par t.head t p = p.or (par t.head t none) := by
 induction t generalizing p with
 | lf j => cases p <;> simp [par, head]
 | ap l r hl hr =>
   simp only [par, head]
   rw [hl p]
   cases p <;> simp
theorem par_hd {xs : List Tr} {x : Tr} (hx : x ∈ xs) (hn : ((lf i).apps xs).leaves.Nodup) (p : Option Nat) : par x.head ((lf i).apps xs) p = some i := by
 induction xs using revInd with
 | nil => cases hx
 | snoc xs y ih =>
   rw [apps_snoc] at hn ⊢
   by_cases q : x ∈ xs
   · have e := ih q (nd_l hn)
     simp [par, e]
   · rcases List.mem_append.mp hx with h | h
     · exact absurd h q
     · simp at h
       subst h
       rw [par_r (fun q => nd_x hn q head_mem), head_apps, par_head]
       rfl
theorem cnt_arg {xs : List Tr} {x : Tr} (hx : x ∈ xs) (hn : ((lf i).apps xs).leaves.Nodup) (hc : c ∈ x.leaves) (k : Nat) : cnt c ((lf i).apps xs) k = cnt c x 0 := by
 induction xs using revInd generalizing k with
 | nil => cases hx
 | snoc xs y ih =>
   rw [apps_snoc] at hn ⊢
   by_cases q : x ∈ xs
   · rw [cnt_l (mem_apps.mpr (.inr ⟨x, q, hc⟩))]; exact ih q (nd_l hn) _
   · rcases List.mem_append.mp hx with h | h
     · exact absurd h q
     · simp at h
       subst h
       rw [cnt_r fun q => nd_x hn q hc]
theorem cnt_fill {xs : List Tr} {s : Tr} {m : Nat} {x : Tr} (hm : m ∈ s.leaves) (hx : xs[m]? = some x) (hn : (fill xs s).leaves.Nodup) (hc : c ∈ x.leaves) (hh : x.head ≠ c) (k : Nat) : cnt c (fill xs s) k = cnt c x 0 := by
 induction s generalizing k with
 | lf j =>
   simp [Tr.leaves] at hm
   subst hm
   simp only [fill, List.getD, hx, Option.getD_some]
   exact cnt_flat hc hh _ _
 | ap l r hl hr =>
   have sub : ∀ s : Tr, m ∈ s.leaves → c ∈ (fill xs s).leaves := fun s hs => by
     rw [leaves_fill]
     exact List.mem_flatten.mpr ⟨_, List.mem_map.mpr ⟨m, hs, rfl⟩, by simp [List.getD, hx, hc]⟩
   simp only [fill] at hn ⊢
   by_cases q : m ∈ l.leaves
   · rw [cnt_l (sub l q)]; exact hl q (nd_l hn) _
   · simp only [Tr.leaves, List.mem_append] at hm
     have q' := hm.resolve_left q
     rw [cnt_r fun h => nd_x hn h (sub r q')]; exact hr q' (nd_r hn) _
theorem Red.grow (h : Red ru a t u) (hn : t.leaves.Nodup) (hc : c ∈ u.leaves) (k : Nat) (p : Option Nat) (hk : Tr.cnt c u k ≠ Tr.cnt c t k) : par c t p = some a := by
 induction h generalizing k p with
 | @hd xs h0 hl =>
   haveI hp := ru.lin a h0
   haveI hc' := (leaves_fillP hp hl).subset hc
   refine Xea (List.mem_flatten.mp hc') fun ls h1 h2 => ?_
   refine Xea (List.mem_map.mp h1) fun x hx q2 => ?_; subst q2
   by_cases hh : x.head = c
   · rw [← hh]; exact par_hd hx hn p
   · exfalso; apply hk
     obtain ⟨m, hm, e⟩ := List.getElem_of_mem hx
     rw [cnt_arg hx hn h2]
     exact cnt_fill (m := m) (hp.symm.subset (List.mem_range.mpr (hl ▸ hm))) (by rw [List.getElem?_eq_getElem hm, e]) ((Red.hd h0 hl).nd hn) h2 hh k
 | @l l l' r h ih =>
   haveI hsub : ∀ x, x ∈ l'.leaves → x ∈ l.leaves := fun x hx => h.leaves.symm.subset (List.mem_cons_of_mem _ hx)
   by_cases q : c ∈ l'.leaves
   · rw [cnt_l q, cnt_l (hsub _ q)] at hk
     have e := ih (nd_l hn) q _ p hk
     simp [par, e]
   · haveI q2 : c ∈ r.leaves := by simp only [Tr.leaves, List.mem_append] at hc; exact hc.resolve_left q
     rw [cnt_r q, cnt_r fun h => nd_x hn h q2] at hk
     exact absurd rfl hk
 | @r l r r' h ih =>
   by_cases q : c ∈ l.leaves
   · rw [cnt_l q, cnt_l q] at hk
     exact absurd rfl hk
   · haveI q2 : c ∈ r'.leaves := by simp only [Tr.leaves, List.mem_append] at hc; exact hc.resolve_left q
     rw [cnt_r q, cnt_r q] at hk
     rw [par_r q]
     exact ih (nd_r hn) q2 _ _ hk
noncomputable def RedN (ru : Ru) (i : Nat) (t u : Tr) : Prop := t.leaves.Nodup ∧ Red ru i t u
theorem sq_nd {A : List Nat} (h : Sq (RedN ru) A t u) (hn : t.leaves.Nodup) : u.leaves.Nodup := by
 induction h with
 | nil => exact hn
 | cons r _ ih => exact ih (r.2.nd hn)
theorem sq_leaves {A : List Nat} (h : Sq (RedN ru) A t u) : t.leaves.Perm (A ++ u.leaves) := by
 induction h with
 | nil => exact .refl _
 | cons r _ ih => exact r.2.leaves.trans (ih.cons _)
theorem lts (ru : Ru) : Lts (RedN ru) := by
 constructor
 · rintro i t u v ⟨hn, h⟩ ⟨_, h'⟩; exact h.det hn h'
 · rintro i j t u v hij ⟨hn, h⟩ ⟨_, h'⟩
   refine Xea (Red.dia hij hn h h') fun w h1 h2 => ?_
   exact Iea w ⟨h.nd hn, h1⟩ ⟨h'.nd hn, h2⟩
 · rintro i A t u v ⟨hn, h⟩ s hi
   exact h.gone hn ((sq_leaves s).symm.subset (List.mem_append_left _ hi))
 · rintro a b c t u v u' v' hab hca hcb ⟨hn, ha⟩ ⟨_, hb⟩ ⟨nu, hu⟩ ⟨nv, hv⟩
   refine Xea (hu.cnt nu 0) fun m1 e1 l1 => ?_
   refine Xea (hv.cnt nv 0) fun m2 e2 l2 => ?_
   have q : (∃ m, cnt c t 0 = some m ∧ ru.n c ≤ m) := by
     by_cases q1 : cnt c u 0 = cnt c t 0
     · exact Iea m1 (by rw [← q1, e1]) l1
     by_cases q2 : cnt c v 0 = cnt c t 0
     · exact Iea m2 (by rw [← q2, e2]) l2
     haveI p1 := ha.grow hn hu.mem 0 none q1
     haveI p2 := hb.grow hn hv.mem 0 none q2
     rw [p1] at p2
     cases p2
     exact absurd rfl hab
   refine Xea q fun m e l => ?_
   refine Xe (red_of hu.pos e l [] rfl) fun w hw => ?_
   exact Iea w hn hw
end
section
open Tr
variable {ru : Ru} {i j c a b : Nat} {t u v : Tr}
noncomputable def row : Tr → List Int
 | .lf i => [(i : Int)]
 | .ap l r => -1 :: (row l ++ row r)
noncomputable def rows (xs : List Tr) : List Int := (xs.map row).flatten
noncomputable def size : Tr → Nat
 | .lf _ => 1
 | .ap l r => size l + size r + 1
theorem rows_cons {x : Tr} {xs : List Tr} : rows (x :: xs) = row x ++ rows xs := rfl
theorem rows_append {xs ys : List Tr} : rows (xs ++ ys) = rows xs ++ rows ys := by simp [rows]
theorem row_length : (row t).length + 1 = 2 * t.leaves.length := by
 induction t with
 | lf i => rfl
 | ap l r hl hr => simp only [row, Tr.leaves, List.length_cons, List.length_append]; exact tw hl hr
theorem row_apps {h : Tr} {xs : List Tr} : row (h.apps xs) = List.replicate xs.length (-1) ++ row h ++ rows xs := by
 induction xs generalizing h with
 | nil => simp [apps, rows]
 | cons x xs ih =>
   rw [apps_cons, ih, rows_cons]
   simp only [row, List.length_cons]
   rw [List.replicate_succ']
   simp
theorem row_last : ∃ A a, row t = A ++ [a] ∧ 0 ≤ a := by
 induction t with
 | lf i => exact Ieea ([]) _ rfl (by simp)
 | ap l r hl hr =>
   refine Xeea hr fun A a e h => ?_
   exact Ieea (-1 :: (row l ++ A)) a (by simp [row, e]) h
theorem row_mem {x : Int} (h : x ∈ row t) (q : x ≠ -1) : ∃ i : Nat, x = i ∧ i ∈ t.leaves := by
 induction t with
 | lf i => simp only [row, List.mem_singleton] at h; exact Iea i h (by simp [Tr.leaves])
 | ap l r hl hr =>
   simp only [row, List.mem_cons, List.mem_append] at h
   rcases h with h | h | h
   · exact absurd h q
   · refine Xea (hl h) fun i e m => ?_; exact Iea i e (by simp [Tr.leaves, m])
   · refine Xea (hr h) fun i e m => ?_; exact Iea i e (by simp [Tr.leaves, m])
theorem mem_row {i : Nat} (h : i ∈ t.leaves) : (i : Int) ∈ row t := by
 induction t with
 | lf j => simp only [Tr.leaves, List.mem_singleton] at h; simp [row, h]
 | ap l r hl hr =>
   simp only [Tr.leaves, List.mem_append] at h
   simp only [row, List.mem_cons, List.mem_append]
   rcases h with h | h
   · exact .inr (.inl (hl h))
   · exact .inr (.inr (hr h))
theorem row_leaf {x : Int} (h : x ∈ row t) (h0 : 0 ≤ x) : x.toNat ∈ t.leaves := by
 refine Xea (row_mem h (by omega)) fun i q1 m => ?_; subst q1
 simpa using m
theorem as_apps (t : Tr) : ∃ xs, t = (lf t.head).apps xs ∧ ∀ x ∈ xs, size x < size t := by
 induction t with
 | lf i => exact Iea ([]) rfl (by simp)
 | ap l r hl hr =>
   refine Xea hl fun xs e h => ?_
   refine Iea (xs ++ [r]) ?_ (fun x hx => ?_)
   · rw [apps_snoc]; simp only [Tr.head]; rw [← e]
   · simp only [size]
     rcases List.mem_append.mp hx with h' | h'
     · have := h x h'; omega
     · simp at h'; subst h'; omega
theorem Red.arg {h x x' : Tr} {X Y : List Tr} (hr : Red ru i x x') : Red ru i (h.apps (X ++ x :: Y)) (h.apps (X ++ x' :: Y)) := by
 rw [apps_append, apps_append, apps_cons, apps_cons]
 exact Red.apps (.r hr) Y
theorem spine (n : Nat) : ∀ t : Tr, size t ≤ n → t.leaves.Nodup → ∀ i ∈ t.leaves, ∃ m xs A B, xs.length = m ∧ cnt i t 0 = some m ∧ row t = A ++ (row ((lf i).apps xs) ++ B) ∧ (A = [] ∨ ∃ A' a, A = A' ++ [a] ∧ 0 ≤ a) ∧ ∀ u', Red ru i ((lf i).apps xs) u' → ∃ u, Red ru i t u ∧ row u = A ++ (row u' ++ B) := by
 induction n with
 | zero => intro t h; cases t <;> simp [size] at h
 | succ n ih =>
   intro t hs hn i hi
   refine Xea (as_apps t) fun xs e hx => ?_
   generalize t.head = hd at e
   by_cases q : hd = i
   · subst q
     subst e
     exact Ieeeeaaaa xs.length xs ([]) ([]) rfl (by rw [cnt_hd]; simp) (by simp) (.inl rfl) (fun u' hu => ⟨u', hu, by simp⟩)
   · have hi' := hi
     rw [e, mem_apps] at hi'
     rcases hi' with h | ⟨x, hxm, hix⟩
     · simp [Tr.leaves] at h; exact absurd h.symm q
     refine Xee (List.append_of_mem hxm) fun X Y q2 => ?_; subst q2
     have hnx : x.leaves.Nodup := by
       rw [e, leaves_apps] at hn
       have := (List.nodup_append.mp hn).2.1
       simp only [List.map_append, List.map_cons, List.flatten_append, List.flatten_cons] at this
       exact (List.nodup_append.mp (List.nodup_append.mp this).2.1).1
     refine Xeeeeaaaa (ih x (by have := hx x hxm; lia) hnx i hix) fun m ys A B h1 h2 h3 h4 h5 => ?_
     have er : ∀ z, row ((lf hd).apps (X ++ z :: Y)) = (List.replicate (X ++ x :: Y).length (-1) ++ [(hd : Int)] ++ rows X) ++ (row z ++ rows Y) := fun z => by
       rw [row_apps, rows_append, rows_cons]
       simp [row]
     refine Ieeeeaaaa m ys ((List.replicate (X ++ x :: Y).length (-1) ++ [(hd : Int)] ++ rows X) ++ A) (B ++ rows Y) h1 ?_ ?_ ?_ ?_
     · rw [e] at hn ⊢
       rw [cnt_arg hxm hn hix]; exact h2
     · conv => lhs; rw [e, er, h3]
       simp
     · refine .inr ?_
       rcases h4 with rfl | ⟨A', a, rfl, ha⟩
       · rcases List.eq_nil_or_concat X with rfl | ⟨Z, z, rfl⟩
         · exact Ieea (List.replicate ([] ++ x :: Y).length (-1)) hd (by simp [rows]) (by simp)
         · refine Xeea (row_last (t := z)) fun A1 a1 e1 h1 => ?_
           exact Ieea (List.replicate (Z.concat z ++ x :: Y).length (-1) ++ [(hd : Int)] ++ (rows Z ++ A1)) a1 (by rw [List.concat_eq_append, rows_append]; simp [rows, e1]) h1
       · exact Ieea ((List.replicate (X ++ x :: Y).length (-1) ++ [(hd : Int)] ++ rows X) ++ A') a (by simp) ha
     · intro u' hu
       refine Xea (h5 u' hu) fun w h6 h7 => ?_
       refine Iea ((lf hd).apps (X ++ w :: Y)) ?_ ?_
       · haveI := Red.arg (h := lf hd) (X := X) (Y := Y) h6
         rw [← e] at this; exact this
       · rw [er, h7]; simp
end
noncomputable def mask (A : List Nat) : Nat := (A.map fun i => 2 ^ i).sum
noncomputable def bitOk (a x : Nat) : Bool := x.testBit a || (decide (2 ^ a + x < 128) && (List.range 7).all fun i => (2 ^ a + x).testBit i == (i == a || x.testBit i))
theorem bit_all : ((List.range 7).all fun a => (List.range 128).all (bitOk a)) = true := by decide +kernel
theorem bit_one {a x : Nat} (ha : a < 7) (hx : x < 128) (h : x.testBit a = false) : 2 ^ a + x < 128 ∧ ∀ i, i < 7 → (2 ^ a + x).testBit i = (i == a || x.testBit i) := by
 have q := List.all_eq_true.mp (List.all_eq_true.mp bit_all a (List.mem_range.mpr ha)) x (List.mem_range.mpr hx)
 unfold bitOk at q
 rw [h, Bool.false_or, Bool.and_eq_true, decide_eq_true_eq, List.all_eq_true] at q
 exact ⟨q.1, fun i hi => eq_of_beq (q.2 i (List.mem_range.mpr hi))⟩
theorem mask_bits {A : List Nat} (h : A.Nodup) (h7 : ∀ i ∈ A, i < 7) : mask A < 128 ∧ ∀ i, i < 7 → (mask A).testBit i = decide (i ∈ A) := by
 induction A with
 | nil => exact ⟨by decide, fun i _ => by rw [show mask [] = 0 from rfl, Nat.zero_testBit]; rfl⟩
 | cons a A ih =>
   refine Xa (List.nodup_cons.mp h) fun hn hd => ?_
   refine Xa (ih hd fun i hi => h7 i (List.mem_cons_of_mem _ hi)) fun h1 h2 => ?_
   haveI ha := h7 a List.mem_cons_self
   haveI e : mask (a :: A) = 2 ^ a + mask A := rfl
   refine Xa (bit_one ha h1 ((h2 a ha).trans (decide_eq_false hn))) fun q1 q2 => ?_
   rw [e]
   refine ⟨q1, fun i hi => ?_⟩
   rw [q2 i hi, h2 i hi]
   by_cases e : i = a
   · subst e; simp
   · simp [e]
theorem mask_lt {A : List Nat} (h : A.Nodup) (h7 : ∀ i ∈ A, i < 7) : mask A < 128 := (mask_bits h h7).1
theorem mask_bit {A : List Nat} (h : A.Nodup) (h7 : ∀ i ∈ A, i < 7) (i : Nat) : (mask A).testBit i = decide (i ∈ A) := by
 rcases Nat.lt_or_ge i 7 with q | q
 · exact (mask_bits h h7).2 i q
 · rw [Nat.testBit_lt_two_pow (Nat.lt_of_lt_of_le (mask_lt h h7) (show 2 ^ 7 ≤ 2 ^ i from Nat.pow_le_pow_right dc q))]
   exact (decide_eq_false fun hm => Nat.not_le_of_lt (h7 i hm) q).symm
theorem mask_same {A B : List Nat} (hA : A.Nodup) (h7A : ∀ i ∈ A, i < 7) (hB : B.Nodup) (h7B : ∀ i ∈ B, i < 7) (h : mask A = mask B) (i : Nat) : i ∈ A ↔ i ∈ B := by
 have a := mask_bit hA h7A i
 rw [h, mask_bit hB h7B i] at a
 exact (decide_eq_decide.mp a).symm
theorem mask_of {A B : List Nat} (hA : A.Nodup) (h7A : ∀ i ∈ A, i < 7) (hB : B.Nodup) (h : ∀ i, i ∈ A ↔ i ∈ B) : mask A = mask B := by
 refine Nat.eq_of_testBit_eq fun i => ?_
 rw [mask_bit hA h7A, mask_bit hB fun i hi => h7A i ((h i).mpr hi)]
 exact decide_eq_decide.mpr (h i)
theorem mask_or {A B D : List Nat} (hA : A.Nodup) (h7A : ∀ i ∈ A, i < 7) (hB : B.Nodup) (h7B : ∀ i ∈ B, i < 7) (hD : D.Nodup) (h : ∀ i, i ∈ D ↔ i ∈ A ∨ i ∈ B) : mask A ||| mask B = mask D := by
 refine Nat.eq_of_testBit_eq fun i => ?_
 rw [Nat.testBit_or, mask_bit hA h7A, mask_bit hB h7B, mask_bit hD fun i hi => ((h i).mp hi).elim (h7A i) (h7B i), decide_eq_decide.mpr (h i), Bool.decide_or]
theorem mask_and {A B D : List Nat} (hA : A.Nodup) (h7A : ∀ i ∈ A, i < 7) (hB : B.Nodup) (h7B : ∀ i ∈ B, i < 7) (hD : D.Nodup) (h : ∀ i, i ∈ D ↔ i ∈ A ∧ i ∈ B) : mask A &&& mask B = mask D := by
 refine Nat.eq_of_testBit_eq fun i => ?_
 rw [Nat.testBit_and, mask_bit hA h7A, mask_bit hB h7B, mask_bit hD fun i hi => h7A i ((h i).mp hi).1, decide_eq_decide.mpr (h i), Bool.decide_and]
theorem perm_of_same {A B : List Nat} (hA : A.Nodup) (hB : B.Nodup) (h : ∀ i, i ∈ A ↔ i ∈ B) : A.Perm B := (List.perm_ext_iff_of_nodup hA hB).mpr h
theorem mask_snoc (A : List Nat) (i : Nat) : mask (A ++ [i]) = 2 ^ i + mask A := by simp [mask, Nat.add_comm]
theorem nodup_le : ∀ (n : Nat) {l : List Nat}, l.Nodup → (∀ x ∈ l, x < n) → l.length ≤ n := by
 intro n
 induction n with
 | zero =>
   intro l _ hl
   cases l with
   | nil => exact Nat.le_refl _
   | cons x l => exact absurd (hl x List.mem_cons_self) (Nat.not_lt_zero _)
 | succ n ih =>
   intro l h hl
   by_cases q : n ∈ l
   · have h1 := ih (l := l.erase n) (h.erase n) fun x hx => by
       have := (List.Nodup.mem_erase_iff h).mp hx
       exact Nat.lt_of_le_of_ne (Nat.le_of_lt_succ (hl x this.2)) this.1
     rw [List.length_erase_of_mem q] at h1
     exact Nat.le_add_of_sub_le h1
   · exact Nat.le_succ_of_le (ih h fun x hx => Nat.lt_of_le_of_ne (Nat.le_of_lt_succ (hl x hx)) (by rintro rfl; exact q hx))
theorem few {l : List Nat} (h : l.Nodup) (hl : ∀ x ∈ l, x < 128) : l.length ≤ 128 := nodup_le 128 h hl
end Mine
end
section
open PySem PySem.W PySem.Calls PyProof.Rows
namespace Mine
noncomputable def sgnT : Str := "( ) [ ] : , ; + - * / | & < > = . % { } == != <= >= ~ ^ << >> ** += -= *= /= %= &= |= ^= <<= >>= **= // //="
noncomputable def sgnL : List Str := (["(", ")", "[", "]", ":", ",", ";", "+", "-", "*", "/", "|", "&", "<", ">", "=", ".", "%", "{", "}", "==", "!=", "<=", ">=", "~", "^", "<<", ">>", "**", "+=", "-=", "*=", "/=", "%=", "&=", "|=", "^=", "<<=", ">>=", "**=", "//", "//="] : List String).map Str.ofString
noncomputable def letL : List Str := (["a", "B", "c", "D", "e", "F", "g"] : List String).map Str.ofString
theorem sgn_split : Txt.split sgnT " " = sgnL := by decide +kernel
theorem sgn_lower : (sgnL.all fun w => Txt.lower w == w) = true := by decide +kernel
theorem sgn_text : (sgnL.all fun w => okText w && decide (w.length ≤ 3) && !w.cps.contains 32 && decide (1 ≤ w.length)) = true := by decide +kernel
theorem sgn_nodup : sgnL.Nodup := by decide +kernel
theorem sgn_let : (sgnL.all fun w => letL.all fun l => !decide (w = l)) = true := by decide +kernel
theorem let_text : (letL.all fun w => okText w && decide (w.length ≤ 3) && !w.cps.contains 32 && decide (1 ≤ w.length)) = true := by decide +kernel
theorem sgn_tok (PP : Params) : (sgnL.all fun w => match tokOf (tabA PP) w with | some t => decide (t < 256 ∧ t ≠ 49) && (findBy Value.isStrOf (tabA PP) w).isSome | none => false) = true := by kernel_rfl
theorem at_tok (PP : Params) : tokOf (tabA PP) "@" = some 49 ∧ (findBy Value.isStrOf (tabA PP) "@").isSome = true := ⟨by kernel_rfl, by kernel_rfl⟩
theorem fmodN (n m : Nat) : Int.fmod (n : Int) (m : Int) = ((n % m : Nat) : Int) := by
 rw [Int.fmod_eq_emod_of_nonneg _ (by omega)]; rfl
theorem fdivN (n m : Nat) : Int.fdiv (n : Int) (m : Int) = ((n / m : Nat) : Int) := by
 rw [Int.fdiv_eq_ediv_of_nonneg _ (by omega)]; rfl
noncomputable def Tr.d : Tr → D
 | .lf i => .int (i : Nat)
 | .ap l r => .tup [l.d, r.d]
open Tr in
noncomputable def shL : List Tr := [lf 0, ap (lf 0) (lf 1), ap (lf 1) (lf 0), ap (ap (lf 0) (lf 1)) (lf 2), ap (ap (lf 0) (lf 2)) (lf 1), ap (ap (lf 1) (lf 0)) (lf 2), ap (ap (lf 1) (lf 2)) (lf 0), ap (ap (lf 2) (lf 0)) (lf 1), ap (ap (lf 2) (lf 1)) (lf 0),
 ap (lf 0) (ap (lf 1) (lf 2)), ap (lf 0) (ap (lf 2) (lf 1)), ap (lf 1) (ap (lf 0) (lf 2)), ap (lf 1) (ap (lf 2) (lf 0)), ap (lf 2) (ap (lf 0) (lf 1)), ap (lf 2) (ap (lf 1) (lf 0))]
noncomputable def sh (n : Nat) : Tr := shL.getD (n % 15) (.lf 0)
noncomputable def ar (n : Nat) : Nat := 1 + (if n % 15 > 0 then 1 else 0) + (if n % 15 > 2 then 1 else 0)
theorem sh_lin (n : Nat) : (sh n).leaves.Perm (List.range (ar n)) := by
 have key : ∀ r, r < 15 → ((shL.getD r (.lf 0)).leaves).Perm (List.range (1 + (if r > 0 then 1 else 0) + (if r > 2 then 1 else 0))) := by decide +kernel
 exact key (n % 15) (Nat.mod_lt _ dc)
theorem g_shape_eq (n : Nat) : g_law_shape [.int n] = some (sh n).d := by
 haveI key : ∀ r, r < 15 → subD (.tup (shL.map Tr.d)) (.int (r : Nat)) = some (shL.getD r (.lf 0)).d := by
   intro r hr
   haveI : (0 : Int) ≤ (r : Nat) ∧ ((r : Nat) : Int) < 1000 := by lia
   refine (if_pos (e := none) this).trans ?_
   haveI hl : r < shL.length := hr
   simp [List.getD, hl]
 haveI e : g_law_shape [.int n] = (subD (.tup (shL.map Tr.d)) (.int (Int.fmod n 15))) := by
   haveI e1 : f_law_shape [.val (.int n), .non] = fSeq (fRet (fSub (fv_ 1) (fBin .Mod (fv_ 0) (kq (.int 15))))) fBNil [.val (.int n), .val (.tup (shL.map Tr.d))] := by kernel_rfl
   unfold g_law_shape runD
   simp only [List.length_cons, List.length_nil, if_true, List.map_cons, List.map_nil, List.replicate, List.cons_append, List.nil_append]
   rw [e1]
   haveI e2 : fBin .Mod (fv_ 0) (kq (.int 15)) [.val (.int n), .val (.tup (shL.map Tr.d))] = some (.int (Int.fmod n 15), [.val (.int n), .val (.tup (shL.map Tr.d))]) := by kernel_rfl
   haveI e3 : fv_ 1 [.val (.int n), .val (.tup (shL.map Tr.d))] = some (.tup (shL.map Tr.d), [.val (.int n), .val (.tup (shL.map Tr.d))]) := by kernel_rfl
   simp only [fSeq, fRet, fSub, e2, e3, Option.bind_some]
   cases subD (.tup (shL.map Tr.d)) (.int (Int.fmod n 15)) <;> rfl
 rw [e]
 haveI := fmodN n 15
 rw [show ((15 : Nat) : Int) = 15 from rfl] at this
 rw [this]
 exact key _ (Nat.mod_lt _ dc)
noncomputable def sg (n k : Nat) : Str := sgnL.getD (15 * k + n / 15 % 12) ""
theorem sgn_gSplit : gSplit (.str sgnT) [.str " "] = some (.list (sgnL.map .str)) := by
 have h1 : ((" " : Str).length ≠ 0 ∧ sgnT.length ≤ bigN) := by decide +kernel
 show (if (" " : Str).length ≠ 0 ∧ sgnT.length ≤ bigN then some (D.list ((Txt.split sgnT " ").map D.str)) else none) = _
 rw [if_pos h1, sgn_split]
theorem sg_ix (n k : Nat) (hk : k < 3) : 15 * k + n / 15 % 12 < 42 := by have := Nat.mod_lt (n / 15) (show 12 > 0 by decide); omega
theorem g_sign_eq (n k : Nat) (hk : k < 3) : g_law_sign [.int n, .int k] = some (.str (sg n k)) := by
 haveI hlt := sg_ix n k hk
 haveI h1 : binD .Mult (.int 15) (.int k) = some (.int ((15 * k : Nat) : Int)) := by
   haveI : okI 15 := by decide
   refine (if_pos (e := none) this).trans ?_
   rw [Int.natCast_mul]; rfl
 haveI h2 : binD .FloorDiv (.int n) (.int 15) = some (.int ((n / 15 : Nat) : Int)) := by
   haveI : (15 : Int) ≠ 0 ∧ Int.natAbs 15 < 1073741824 := by decide
   refine (if_pos (e := none) this).trans ?_
   rw [← fdivN n 15]; rfl
 haveI h3 : binD .Mod (.int ((n / 15 : Nat) : Int)) (.int 12) = some (.int ((n / 15 % 12 : Nat) : Int)) := by
   haveI : (12 : Int) ≠ 0 := by decide
   refine (if_pos (e := none) this).trans ?_
   rw [← fmodN (n / 15) 12]; rfl
 haveI e1 : f_law_sign [.val (.int n), .val (.int k), .non] = fSeq (fAsg 2 (fMeth "str" gSplit (kq (.str sgnT)) (fC_ (kq (.str " ")) fnl))) (fSeq (fRet (fSub (fv_ 2) (fBin .Add (fBin .Mult (kq (.int 15)) (fv_ 1)) (fBin .Mod (fBin .FloorDiv (fv_ 0) (kq (.int 15))) (kq (.int 12)))))) fBNil) [.val (.int n), .val (.int k), .non] := rfl
 haveI e2 : fMeth "str" gSplit (kq (.str sgnT)) (fC_ (kq (.str " ")) fnl) [.val (.int n), .val (.int k), .non] = some (.list (sgnL.map .str), [.val (.int n), .val (.int k), .non]) := by
   simp only [fMeth, fC_, fnl, Option.bind_some, typD, if_true, sgn_gSplit, Option.map_some]
 haveI v0 : ∀ x : D, fv_ 0 [.val (.int n), .val (.int k), .val x] = some (.int n, [.val (.int n), .val (.int k), .val x]) := fun _ => rfl
 haveI v1 : ∀ x : D, fv_ 1 [.val (.int n), .val (.int k), .val x] = some (.int k, [.val (.int n), .val (.int k), .val x]) := fun _ => rfl
 haveI v2 : ∀ x : D, fv_ 2 [.val (.int n), .val (.int k), .val x] = some (x, [.val (.int n), .val (.int k), .val x]) := fun _ => rfl
 haveI hadd : binD .Add (.int ((15 * k : Nat) : Int)) (.int ((n / 15 % 12 : Nat) : Int)) = some (.int ((15 * k + n / 15 % 12 : Nat) : Int)) := by
   rw [Int.natCast_add]; rfl
 haveI hsub : subD (.list (sgnL.map .str)) (.int ((15 * k + n / 15 % 12 : Nat) : Int)) = some (.str (sg n k)) := by
   haveI : (0 : Int) ≤ ((15 * k + n / 15 % 12 : Nat) : Int) ∧ ((15 * k + n / 15 % 12 : Nat) : Int) < 1000 := by omega
   refine (if_pos (e := none) this).trans ?_
   rw [Int.toNat_natCast]
   haveI hl : 15 * k + n / 15 % 12 < sgnL.length := hlt
   rw [List.getElem?_map, List.getElem?_eq_getElem hl, sg, List.getD, List.getElem?_eq_getElem hl]
   rfl
 unfold g_law_sign runD
 simp only [List.length_cons, List.length_nil, if_true, List.map_cons, List.map_nil, List.replicate, List.cons_append, List.nil_append]
 rw [e1]
 haveI s2 : ∀ x : D, ([.val (.int n), .val (.int k), .non] : LS).set 2 (.val x) = [.val (.int n), .val (.int k), .val x] := fun _ => rfl
 simp only [fSeq, fAsg, e2, Option.bind_some, Option.map_some, s2, fRet, fSub, fBin, v0, v1, v2, h1, h2, h3, hadd, hsub, retD]
theorem sg_mem (n k : Nat) (hk : k < 3) : sg n k ∈ sgnL := by
 have hl : 15 * k + n / 15 % 12 < sgnL.length := sg_ix n k hk
 rw [sg, List.getD, List.getElem?_eq_getElem hl]
 exact List.getElem_mem hl
theorem sg_inj {n k n' k' : Nat} (hk : k < 3) (hk' : k' < 3) (h : sg n k = sg n' k') : k = k' := by
 have hl : 15 * k + n / 15 % 12 < sgnL.length := sg_ix n k hk
 haveI hl' : 15 * k' + n' / 15 % 12 < sgnL.length := sg_ix n' k' hk'
 rw [sg, sg, List.getD, List.getD, List.getElem?_eq_getElem hl, List.getElem?_eq_getElem hl'] at h
 have := (List.getElem_inj sgn_nodup).mp h
 have a := Nat.mod_lt (n / 15) (show 12 > 0 by decide)
 haveI b := Nat.mod_lt (n' / 15) (show 12 > 0 by decide)
 lia
noncomputable def txt (w : Nat → Str) : Tr → Str
 | .lf i => w i
 | .ap l r => "@ " ++ txt w l ++ " " ++ txt w r
noncomputable def wds (w : Nat → Str) : Tr → List Str
 | .lf i => [w i]
 | .ap l r => "@" :: (wds w l ++ wds w r)
theorem bStr {x y : Str} (h : x.length + y.length ≤ bigN) : binD .Add (.str x) (.str y) = some (.str (x ++ y)) := if_pos h
theorem len_app (x y : Str) : (x ++ y).length = x.length + y.length := Str.length_append x y
theorem txt_len {w : Nat → Str} {t : Tr} (h : ∀ i ∈ t.leaves, (w i).length ≤ 3) : (txt w t).length + 3 ≤ 6 * t.leaves.length := by
 induction t with
 | lf i => have := h i (by simp [Tr.leaves]); simp [txt, Tr.leaves]; omega
 | ap l r hl hr =>
   have h1 := hl fun i hi => h i (by simp [Tr.leaves, hi])
   have h2 := hr fun i hi => h i (by simp [Tr.leaves, hi])
   simp only [txt, len_app, Tr.leaves, List.length_append]
   have e1 : ("@ " : Str).length = 2 := by decide +kernel
   have e2 : (" " : Str).length = 1 := by decide +kernel
   lia
noncomputable def Tr.dep : Tr → Nat
 | .lf _ => 1
 | .ap l r => max l.dep r.dep + 1
theorem g_text_eq {W : D} {w : Nat → Str} {t : Tr} : ∀ {j : Nat}, t.dep ≤ j → (∀ i ∈ t.leaves, subD W (.int (i : Nat)) = some (.str (w i)) ∧ (w i).length ≤ 3) → t.leaves.length ≤ 100 → g_law_text j [t.d, W] = some (.str (txt w t)) := by
 induction t with
 | lf i =>
   intro j hj h _
   obtain ⟨j, rfl⟩ : ∃ j', j = j' + 1 := ⟨j - 1, by simp [Tr.dep] at hj; omega⟩
   have h1 := (h i (by simp [Tr.leaves])).1
   haveI e1 : f_law_text (g_law_text j) [.val (.int (i : Nat)), .val W] = fSeq (fRet (fSub (fv_ 1) (fv_ 0))) fBNil [.val (.int (i : Nat)), .val W] := by kernel_rfl
   haveI v0 : fv_ 0 [.val (.int (i : Nat)), .val W] = some (.int (i : Nat), [.val (.int (i : Nat)), .val W]) := rfl
   haveI v1 : fv_ 1 [.val (.int (i : Nat)), .val W] = some (W, [.val (.int (i : Nat)), .val W]) := rfl
   show runD 2 0 (f_law_text (g_law_text j)) [.int (i : Nat), W] = _
   unfold runD
   simp only [List.length_cons, List.length_nil, if_true, List.map_cons, List.map_nil, List.replicate, List.cons_append, List.nil_append, e1, fSeq, fRet, fSub, v0, v1, Option.bind_some, h1, Option.map_some, retD, txt]
 | ap l r hl hr =>
   intro j hj h hlen
   obtain ⟨j, rfl⟩ : ∃ j', j = j' + 1 := ⟨j - 1, by simp [Tr.dep] at hj; lia⟩
   simp only [Tr.dep] at hj
   simp only [Tr.leaves, List.length_append] at hlen
   have a1 := hl (j := j) (by omega) (fun i hi => h i (by simp [Tr.leaves, hi])) (by omega)
   have a2 := hr (j := j) (by omega) (fun i hi => h i (by simp [Tr.leaves, hi])) (by omega)
   have b1 := txt_len (w := w) (t := l) fun i hi => (h i (by simp [Tr.leaves, hi])).2
   have b2 := txt_len (w := w) (t := r) fun i hi => (h i (by simp [Tr.leaves, hi])).2
   haveI e1 : fTru (fCall gIsTup (fC_ (fv_ 0) (fC_ (kq (.typ "tuple")) fnl))) [.val (.tup [l.d, r.d]), .val W] = some (true, [.val (.tup [l.d, r.d]), .val W]) := by kernel_rfl
   haveI s0 : fSub (fv_ 0) (kq (.int 0)) [.val (.tup [l.d, r.d]), .val W] = some (l.d, [.val (.tup [l.d, r.d]), .val W]) := by kernel_rfl
   haveI s1 : fSub (fv_ 0) (kq (.int 1)) [.val (.tup [l.d, r.d]), .val W] = some (r.d, [.val (.tup [l.d, r.d]), .val W]) := by kernel_rfl
   haveI v1 : fv_ 1 [.val (.tup [l.d, r.d]), .val W] = some (W, [.val (.tup [l.d, r.d]), .val W]) := rfl
   have eA : ("@ " : Str).length = 2 := by decide +kernel
   have eB : (" " : Str).length = 1 := by decide +kernel
   have c1 : ("@ " : Str).length + (txt w l).length ≤ bigN := by unfold bigN; omega
   have c2 : ("@ " ++ txt w l : Str).length + (" " : Str).length ≤ bigN := by rw [len_app]; unfold bigN; omega
   haveI c3 : ("@ " ++ txt w l ++ " " : Str).length + (txt w r).length ≤ bigN := by rw [len_app, len_app]; unfold bigN; lia
   show runD 2 0 (f_law_text (g_law_text j)) [.tup [l.d, r.d], W] = _
   unfold runD f_law_text
   simp only [List.length_cons, List.length_nil, if_true, List.map_cons, List.map_nil, List.replicate, List.cons_append, List.nil_append, fIf, e1, fSeq, fRet, fBin, fCall, fC_, fnl, s0, s1, v1, Option.bind_some, Option.map_some, a1, a2, bStr c1, bStr c2, bStr c3, retD, txt]
theorem app_cps (x y : Str) : (x ++ y).cps.toList = x.cps.toList ++ y.cps.toList := by
 show (x.cps ++ y.cps).toList = _
 rw [Array.toList_append]
theorem str_ext {x y : Str} (h : x.cps.toList = y.cps.toList) : x = y := by
 cases x; cases y; simp at h; subst h; rfl
theorem app_assoc (x y z : Str) : x ++ y ++ z = x ++ (y ++ z) := by
 apply str_ext; simp only [app_cps, List.append_assoc]
theorem join_cons2 (sep x y : Str) (r : List Str) : Str.join sep (x :: y :: r) = x ++ sep ++ Str.join sep (y :: r) := rfl
theorem join_app (sep : Str) : ∀ (xs ys : List Str), xs ≠ [] → ys ≠ [] → Str.join sep (xs ++ ys) = Str.join sep xs ++ sep ++ Str.join sep ys
 | [], _, h, _ => absurd rfl h
 | [x], [], _, h => absurd rfl h
 | [x], y :: ys, _, _ => rfl
 | x :: x' :: xs, ys, _, h => by
   haveI ih := join_app sep (x' :: xs) ys (by simp) h
   rw [List.cons_append, List.cons_append, join_cons2, ← List.cons_append, ih, join_cons2]
   simp only [app_assoc]
theorem cut_eq {c : Nat} : ∀ {x x' r r' : List Nat}, c ∉ x → c ∉ x' → x ++ c :: r = x' ++ c :: r' → x = x' ∧ r = r'
 | [], [], _, _, _, _, h => ⟨rfl, by simpa using h⟩
 | [], a :: x', _, _, _, h2, h => by simp at h; exact absurd h.1 (fun e => h2 (by simp [e]))
 | a :: x, [], _, _, h1, _, h => by simp at h; exact absurd h.1.symm (fun e => h1 (by simp [e]))
 | a :: x, b :: x', r, r', h1, h2, h => by
   simp at h h1 h2
   refine Xa (cut_eq h1.2 h2.2 h.2) fun e1 e2 => ?_
   exact ⟨by rw [h.1, e1], e2⟩
theorem sep_cps (c : Nat) (x : Str) (r : List Str) (y : Str) : (Str.join ⟨#[c]⟩ (x :: y :: r)).cps.toList = x.cps.toList ++ c :: (Str.join ⟨#[c]⟩ (y :: r)).cps.toList := by
 rw [join_cons2, app_cps, app_cps]; simp
theorem join_inj {c : Nat} : ∀ {xs ys : List Str}, xs ≠ [] → ys ≠ [] → (∀ x ∈ xs, c ∉ x.cps.toList) → (∀ x ∈ ys, c ∉ x.cps.toList) → Str.join ⟨#[c]⟩ xs = Str.join ⟨#[c]⟩ ys → xs = ys
 | [], _, h, _, _, _, _ => absurd rfl h
 | _, [], _, h, _, _, _ => absurd rfl h
 | [x], [y], _, _, _, _, h => by rw [show x = y from h]
 | [x], y :: y' :: ys, _, _, h1, _, h => by
   have h := congrArg (fun s : Str => s.cps.toList) h
   rw [show Str.join ⟨#[c]⟩ [x] = x from rfl] at h
   rw [sep_cps] at h
   exact absurd (by rw [h]; simp) (h1 x (by simp))
 | x :: x' :: xs, [y], _, _, _, h2, h => by
   have h := congrArg (fun s : Str => s.cps.toList) h
   rw [show Str.join ⟨#[c]⟩ [y] = y from rfl] at h
   rw [sep_cps] at h
   exact absurd (by rw [← h]; simp) (h2 y (by simp))
 | x :: x' :: xs, y :: y' :: ys, _, _, h1, h2, h => by
   haveI h := congrArg (fun s : Str => s.cps.toList) h
   rw [sep_cps, sep_cps] at h
   refine Xa (cut_eq (h1 x (by simp)) (h2 y (by simp)) h) fun e1 e2 => ?_
   rw [str_ext e1, join_inj (by simp) (by simp) (fun z hz => h1 z (List.mem_cons_of_mem _ hz)) (fun z hz => h2 z (List.mem_cons_of_mem _ hz)) (str_ext e2)]
theorem split_join {c : Nat} {xs : List Str} (h : xs ≠ []) (hc : ∀ x ∈ xs, c ∉ x.cps.toList) : Txt.split (Str.join ⟨#[c]⟩ xs) ⟨#[c]⟩ = xs := by
 have h1 := StrLaws.join_split (Str.join ⟨#[c]⟩ xs) ⟨#[c]⟩
 have h2 := StrLaws.split_free (Str.join ⟨#[c]⟩ xs) c
 refine join_inj ?_ h h2 hc h1
 intro e
 have := split_pos (Str.join ⟨#[c]⟩ xs) ⟨#[c]⟩
 rw [e] at this; simp at this
theorem txt_join (w : Nat → Str) (t : Tr) : txt w t = Str.join " " (wds w t) ∧ wds w t ≠ [] := by
 induction t with
 | lf i => exact ⟨rfl, by simp [wds]⟩
 | ap l r hl hr =>
   refine ⟨?_, by simp [wds]⟩
   refine Xa hl fun l1 l2 => ?_
   refine Xa hr fun r1 r2 => ?_
   have e : ("@ " : Str) = "@" ++ " " := by decide +kernel
   rw [txt, wds, l1, r1]
   cases q : wds w l with
   | nil => exact absurd q l2
   | cons y ys =>
     rw [List.cons_append, join_cons2, ← List.cons_append, join_app _ _ _ (by simp) r2, e]
     simp only [app_assoc]
theorem wds_free {w : Nat → Str} {t : Tr} (h : ∀ i ∈ t.leaves, 32 ∉ (w i).cps.toList) : ∀ x ∈ wds w t, 32 ∉ x.cps.toList := by
 induction t with
 | lf i => intro x hx; simp [wds] at hx; subst hx; exact h i (by simp [Tr.leaves])
 | ap l r hl hr =>
   intro x hx
   simp only [wds, List.mem_cons, List.mem_append] at hx
   rcases hx with rfl | hx | hx
   · decide +kernel
   · exact hl (fun i hi => h i (by simp [Tr.leaves, hi])) x hx
   · exact hr (fun i hi => h i (by simp [Tr.leaves, hi])) x hx
theorem sp_eq : (" " : Str) = ⟨#[32]⟩ := by decide +kernel
theorem txt_split {w : Nat → Str} {t : Tr} (h : ∀ i ∈ t.leaves, 32 ∉ (w i).cps.toList) : Txt.split (txt w t) " " = wds w t := by
 rw [(txt_join w t).1, sp_eq]
 exact split_join (txt_join w t).2 (wds_free h)
theorem loop_ff {ft : FnB} {e : FnD} {p : D → Bool} {h : D → D} {rest : LS} : ∀ (ds : List D) (acc : List D) (s0 : Slot), (∀ d ∈ ds, ft (.val d :: rest) = some (p d, .val d :: rest)) → (∀ d ∈ ds, p d = true → e (.val d :: rest) = some (h d, .val d :: rest)) → acc.length + ds.length ≤ bigN →
   ∃ s, fLoop (gName 0) ft (fEmit e) ds acc (s0 :: rest) = some (acc ++ (ds.filter p).map h, s :: rest)
 | [], acc, s0, _, _, _ => ⟨s0, by simp [fLoop]⟩
 | d :: ds, acc, s0, hf, he, hl => by
   haveI hf1 := hf d (by simp)
   simp only [List.length_cons] at hl
   rw [fLoop]
   simp only [gName, List.set_cons_zero, Option.bind_some, hf1]
   cases q : p d with
   | true =>
     haveI he1 := he d (by simp) q
     haveI hlen : acc.length ≤ bigN := by omega
     simp only [if_true, fEmit, he1, Option.bind_some, if_pos hlen]
     refine Xe (loop_ff ds (acc ++ [h d]) (.val d) (fun x hx => hf x (List.mem_cons_of_mem _ hx)) (fun x hx => he x (List.mem_cons_of_mem _ hx)) (by simp; omega)) fun s e1 => ?_
     refine ⟨s, ?_⟩
     show fLoop (gName 0) ft (fEmit e) ds (acc ++ [h d]) (.val d :: rest) = _
     rw [e1]; simp [List.filter_cons, q]
   | false =>
     refine Xe (loop_ff ds acc (.val d) (fun x hx => hf x (List.mem_cons_of_mem _ hx)) (fun x hx => he x (List.mem_cons_of_mem _ hx)) (by omega)) fun s e1 => ?_
     refine ⟨s, ?_⟩
     show fLoop (gName 0) ft (fEmit e) ds acc (.val d :: rest) = _
     rw [e1]; simp [List.filter_cons, q]
theorem lc_map {fi : FnL} {x : Str} {fr : List (Str × Nat)} {e : FnD} {h : D → D} {rest σ σ' : LS} {ds : List D} (h1 : fi σ = some (ds, σ')) (h2 : fFree [x] fr σ' = some (.non :: rest)) (h3 : ∀ d ∈ ds, e (.val d :: rest) = some (h d, .val d :: rest)) (h4 : ds.length ≤ bigN) :
   fLC fi [x] fr (gName 0) fAndN (fEmit e) [] σ = some (ds.map h, σ') := by
 refine Xe (loop_ff (ft := fAndN) (p := fun _ => true) (rest := rest) ds [] .non (fun _ _ => rfl) (fun d hd _ => h3 d hd) (by simpa using h4)) fun s e1 => ?_
 simp only [fLC, h1, h2, Option.bind_some, e1]
 rw [List.filter_eq_self.mpr (fun _ _ => rfl)]
 simp
theorem lc_filter {fi : FnL} {x : Str} {fr : List (Str × Nat)} {ft : FnB} {e : FnD} {p : D → Bool} {h : D → D} {rest σ σ' : LS} {ds : List D} (h1 : fi σ = some (ds, σ')) (h2 : fFree [x] fr σ' = some (.non :: rest)) (h5 : ∀ d ∈ ds, ft (.val d :: rest) = some (p d, .val d :: rest)) (h3 : ∀ d ∈ ds, e (.val d :: rest) = some (h d, .val d :: rest)) (h4 : ds.length ≤ bigN) :
   fLC fi [x] fr (gName 0) ft (fEmit e) [] σ = some ((ds.filter p).map h, σ') := by
 refine Xe (loop_ff (ft := ft) (p := p) (rest := rest) ds [] .non h5 (fun d hd _ => h3 d hd) (by simpa using h4)) fun s e1 => ?_
 simp only [fLC, h1, h2, Option.bind_some, e1]
 simp
noncomputable def hd (es : List (Str × Str)) : List D := es.map fun e => .tup [.str e.1, .str e.2]
noncomputable def look (es : List (Str × Str)) (lw : Str) : Option (Str × Str) := es.find? fun e => decide (Txt.lower e.1 = lw)
theorem get_loop {A N : Slot} {lw : Str} : ∀ (es : List (Str × Str)) (s3 s4 : Slot), (∀ e ∈ es, e.1.length ≤ bigN) →
   ∃ s3' s4', fFor (gTup [3, 4]) (fSeq (fIf (fCmp (cmpD .Eq) (fMeth "str" gLower (fv_ 3) fnl) (fv_ 1)) (fSeq (fRet (fv_ 4)) fBNil) fBNil) fBNil) (hd es) [A, .val (.str lw), N, s3, s4] =
     some ((match look es lw with | some e => .ret (.str e.2) | none => .next), [A, .val (.str lw), N, s3', s4'])
 | [], s3, s4, _ => ⟨s3, s4, rfl⟩
 | e :: es, s3, s4, h => by
   haveI hl := h e (by simp)
   haveI g1 : gTup [3, 4] (.tup [.str e.1, .str e.2]) [A, .val (.str lw), N, s3, s4] = some [A, .val (.str lw), N, .val (.str e.1), .val (.str e.2)] := rfl
   have t1 : fCmp (cmpD .Eq) (fMeth "str" gLower (fv_ 3) fnl) (fv_ 1) [A, .val (.str lw), N, .val (.str e.1), .val (.str e.2)] = some (decide (Txt.lower e.1 = lw), [A, .val (.str lw), N, .val (.str e.1), .val (.str e.2)]) := by
     haveI v3 : fv_ 3 [A, .val (.str lw), N, .val (.str e.1), .val (.str e.2)] = some (.str e.1, [A, .val (.str lw), N, .val (.str e.1), .val (.str e.2)]) := rfl
     haveI v1 : fv_ 1 [A, .val (.str lw), N, .val (.str e.1), .val (.str e.2)] = some (.str lw, [A, .val (.str lw), N, .val (.str e.1), .val (.str e.2)]) := rfl
     simp only [fCmp, fMeth, v3, v1, Option.bind_some, typD, if_true, fnl, gLower, strD, if_pos hl, Option.map_some]; rfl
   show ∃ s3' s4', fFor _ _ (.tup [.str e.1, .str e.2] :: hd es) _ = _
   by_cases q : Txt.lower e.1 = lw
   · refine Iee (.val (.str e.1)) (.val (.str e.2)) ?_
     haveI v4 : fv_ 4 [A, .val (.str lw), N, .val (.str e.1), .val (.str e.2)] = some (.str e.2, [A, .val (.str lw), N, .val (.str e.1), .val (.str e.2)]) := rfl
     rw [fFor]
     simp only [g1, Option.bind_some, fSeq, fIf, t1, q, decide_true, if_true, fRet, v4, Option.map_some, look, List.find?_cons_of_pos]
   · obtain ⟨s3', s4', ih⟩ := get_loop es (.val (.str e.1)) (.val (.str e.2)) fun x hx => h x (List.mem_cons_of_mem _ hx)
     refine Iee s3' s4' ?_
     have d0 : decide (Txt.lower e.1 = lw) = false := by simpa using q
     rw [fFor]
     simp only [g1, Option.bind_some, fSeq, fIf, t1, d0, fBNil, Bool.false_eq_true, if_false]
     haveI : look (e :: es) lw = look es lw := by unfold look; rw [List.find?_cons_of_neg (by simpa using q)]
     rw [this]
     exact ih
theorem get_eq {es : List (Str × Str)} {w : Str} (h1 : w.length ≤ bigN) (h2 : okText (Txt.lower w) = true) (h3 : (Txt.lower w).length ≤ bigN) (h4 : ∀ e ∈ es, e.1.length ≤ bigN) :
   g_get (hd es) [.str w] = some (match look es (Txt.lower w) with | some e => .str e.2 | none => .none) := by
 haveI hall : allTup (hd es) = true := by
   unfold allTup hd
   rw [List.all_eq_true]
   intro d hd
   refine Xea (List.mem_map.mp hd) fun e _ q2 => ?_; subst q2
   rfl
 unfold g_get f_get
 simp only [List.length_cons, List.length_nil, if_true, List.cons_append, List.nil_append, List.map_cons, List.map_nil, List.replicate]
 haveI c1 : fConv 0 (fMeth "str" gLower (fv_ 1) fnl) [.val (.hdr (hd es)), .val (.str w), .val .none, .non, .non] = some (.str (Txt.lower w), [.val (.hdr (hd es)), .val (.str w), .val .none, .non, .non]) := by
   haveI v1 : fv_ 1 [.val (.hdr (hd es)), .val (.str w), .val .none, .non, .non] = some (.str w, [.val (.hdr (hd es)), .val (.str w), .val .none, .non, .non]) := rfl
   haveI sa : selfAt 0 [.val (.hdr (hd es)), .val (.str w), .val .none, .non, .non] = true := rfl
   simp only [fConv, sa, if_true, fMeth, v1, Option.bind_some, typD, fnl, gLower, strD, if_pos h1, Option.map_some]
   rw [if_pos ⟨h2, h3⟩]
 haveI s1 : fItL allTup (fHattr (fv_ 0)) [.val (.hdr (hd es)), .val (.str (Txt.lower w)), .val .none, .non, .non] = some (hd es, [.val (.hdr (hd es)), .val (.str (Txt.lower w)), .val .none, .non, .non]) := by
   haveI v0 : fv_ 0 [.val (.hdr (hd es)), .val (.str (Txt.lower w)), .val .none, .non, .non] = some (.hdr (hd es), [.val (.hdr (hd es)), .val (.str (Txt.lower w)), .val .none, .non, .non]) := rfl
   simp only [fItL, fHattr, v0, Option.bind_some, hall, if_true]
 refine Xee (get_loop (A := .val (.hdr (hd es))) (N := .val .none) (lw := Txt.lower w) es .non .non h4) fun s3 s4 e => ?_
 haveI st : ([.val (.hdr (hd es)), .val (.str w), .val .none, .non, .non] : LS).set 1 (.val (.str (Txt.lower w))) = [.val (.hdr (hd es)), .val (.str (Txt.lower w)), .val .none, .non, .non] := rfl
 haveI v2 : ∀ s3 s4, fv_ 2 [.val (.hdr (hd es)), .val (.str (Txt.lower w)), .val .none, s3, s4] = some (.none, [.val (.hdr (hd es)), .val (.str (Txt.lower w)), .val .none, s3, s4]) := fun _ _ => rfl
 rw [fSeq]
 simp only [fAsg, c1, Option.map_some, Option.bind_some, st]
 rw [fSeq]
 simp only [fForS, s1, Option.bind_some, e]
 cases look es (Txt.lower w) with
 | some p => rfl
 | none => rfl
noncomputable def namesL : List (Str × Str) := [("A", "0"), ("b", "1"), ("C", "2"), ("d", "3"), ("E", "4"), ("f", "5"), ("G", "6")]
noncomputable def symE (PP : Params) : FnD := fIf (fInTop (tabA PP) (fv_ 0)) (fItemTop (tabA PP) (fv_ 0)) (fBin .Add (kq (.int 256)) (fCall gInt (fC_ (fHmeth g_get (fv_ 1) (fC_ (fv_ 0) fnl)) fnl)))
noncomputable def Sy (PP : Params) (w : Str) (n : Int) : Prop := symE PP [.val (.str w), .val (.hdr (hd namesL))] = some (.int n, [.val (.str w), .val (.hdr (hd namesL))])
noncomputable def syv (PP : Params) (d : D) : D := match symE PP [.val d, .val (.hdr (hd namesL))] with
 | some p => p.1
 | none => .none
theorem Sy.v {PP : Params} {w : Str} {n : Int} (h : Sy PP w n) : syv PP (.str w) = .int n := by unfold syv; rw [h]
theorem sy_at (PP : Params) : Sy PP "@" 49 := by
 refine Xa (at_tok PP) fun h1 h2 => ?_
 unfold Sy symE
 have v0 : fv_ 0 [.val (.str "@"), .val (.hdr (hd namesL))] = some (.str "@", [.val (.str "@"), .val (.hdr (hd namesL))]) := rfl
 simp only [fIf, fInTop, v0, Option.bind_some, h2, if_true, fItemTop, h1, Option.map_some]
theorem sy_sgn (PP : Params) {w : Str} (h : w ∈ sgnL) : ∃ n, Sy PP w n ∧ n < 256 ∧ n ≠ 49 := by
 have := List.all_eq_true.mp (sgn_tok PP) w h
 split at this
 · rename_i t e
   simp only [Bool.and_eq_true, decide_eq_true_eq] at this
   refine Ieaa t ?_ this.1.1 this.1.2
   unfold Sy symE
   haveI v0 : fv_ 0 [.val (.str w), .val (.hdr (hd namesL))] = some (.str w, [.val (.str w), .val (.hdr (hd namesL))]) := rfl
   simp only [fIf, fInTop, v0, Option.bind_some, this.2, if_true, fItemTop, e, Option.map_some]
 · cases this
theorem sy_let (PP : Params) : ∀ i, i < 7 → Sy PP (letL.getD i "") (256 + (i : Nat))
 | 0, _ => by unfold Sy; kernel_rfl
 | 1, _ => by unfold Sy; kernel_rfl
 | 2, _ => by unfold Sy; kernel_rfl
 | 3, _ => by unfold Sy; kernel_rfl
 | 4, _ => by unfold Sy; kernel_rfl
 | 5, _ => by unfold Sy; kernel_rfl
 | 6, _ => by unfold Sy; kernel_rfl
 | n + 7, h => absurd h (by lia)
noncomputable def capT (great : Bool) : Str := if great = true then "ABC" else "abc"
noncomputable def capL (great : Bool) (i : Nat) : Str := ⟨#[(if great = true then 65 else 97) + i]⟩
theorem sy_cap (PP : Params) (g : Bool) : ∀ i, i < 3 → Sy PP (capL g i) (256 + (i : Nat)) := by
 cases g
 · intro i hi
   match i, hi with
   | 0, _ => unfold Sy; kernel_rfl
   | 1, _ => unfold Sy; kernel_rfl
   | 2, _ => unfold Sy; kernel_rfl
 · intro i hi
   match i, hi with
   | 0, _ => unfold Sy; kernel_rfl
   | 1, _ => unfold Sy; kernel_rfl
   | 2, _ => unfold Sy; kernel_rfl
noncomputable def syT (f : Nat → Int) : Tr → List Int
 | .lf i => [f i]
 | .ap l r => 49 :: (syT f l ++ syT f r)
theorem wds_syv {PP : Params} {w : Nat → Str} {f : Nat → Int} {t : Tr} (h : ∀ i ∈ t.leaves, Sy PP (w i) (f i)) : (wds w t).map (fun x => syv PP (.str x)) = (syT f t).map .int := by
 induction t with
 | lf i => simp [wds, syT, (h i (by simp [Tr.leaves])).v]
 | ap l r hl hr =>
   simp only [wds, syT, List.map_cons, List.map_append]
   rw [hl fun i hi => h i (by simp [Tr.leaves, hi]), hr fun i hi => h i (by simp [Tr.leaves, hi]), (sy_at PP).v]
theorem wds_len (w : Nat → Str) (t : Tr) : (wds w t).length + 1 = 2 * t.leaves.length := by
 induction t with
 | lf i => rfl
 | ap l r hl hr => simp only [wds, Tr.leaves, List.length_cons, List.length_append]; exact tw hl hr
theorem symbols_eq {PP : Params} {w : Nat → Str} {f : Nat → Int} {t : Tr} (h : ∀ i ∈ t.leaves, Sy PP (w i) (f i)) (h2 : ∀ i ∈ t.leaves, 32 ∉ (w i).cps.toList ∧ (w i).length ≤ 3) (h3 : t.leaves.length ≤ 100) : g_law_symbols PP [.str (txt w t), .hdr (hd namesL)] = some (.list ((syT f t).map .int)) := by
 have hlen := txt_len (w := w) (t := t) fun i hi => (h2 i hi).2
 have hwl := wds_len w t
 have hs := txt_split (w := w) (t := t) fun i hi => (h2 i hi).1
 have hb : (" " : Str).length ≠ 0 ∧ (txt w t).length ≤ bigN := ⟨by decide +kernel, by unfold bigN; lia⟩
 have hB : ((wds w t).map D.str).length ≤ bigN := by rw [List.length_map]; unfold bigN; lia
 have v0 : fv_ 0 [.val (.str (txt w t)), .val (.hdr (hd namesL))] = some (.str (txt w t), [.val (.str (txt w t)), .val (.hdr (hd namesL))]) := rfl
 have hi : fItL (fun _ => true) (fMeth "str" gSplit (fv_ 0) (fC_ (kq (.str " ")) fnl)) [.val (.str (txt w t)), .val (.hdr (hd namesL))] = some ((wds w t).map .str, [.val (.str (txt w t)), .val (.hdr (hd namesL))]) := by
   simp only [fItL, fMeth, v0, Option.bind_some, typD, if_true, fC_, fnl, gSplit, on1, strD, if_pos hb, Option.map_some, hs]
 have hlc := lc_map (x := "word") (fr := [("names", 1)]) (e := symE PP) (h := syv PP) (rest := [.val (.hdr (hd namesL))]) hi rfl (fun d hd => by
   refine Xea (List.mem_map.mp hd) fun x hx q2 => ?_; subst q2
   have key : ∃ n, Sy PP x n := by
     clear hlen hwl hs hb hB v0 hi h2 h3 hd
     induction t with
     | lf i => simp [wds] at hx; subst hx; exact ⟨_, h i (by simp [Tr.leaves])⟩
     | ap l r hl hr =>
       simp only [wds, List.mem_cons, List.mem_append] at hx
       rcases hx with rfl | hx | hx
       · exact ⟨_, sy_at PP⟩
       · exact hl (fun i hi => h i (by simp [Tr.leaves, hi])) hx
       · exact hr (fun i hi => h i (by simp [Tr.leaves, hi])) hx
   refine Xe key fun n e => ?_
   rw [e.v]; exact e) hB
 have hm : ((wds w t).map D.str).map (syv PP) = (syT f t).map .int := by rw [List.map_map]; exact wds_syv h
 rw [hm] at hlc
 unfold g_law_symbols runD f_law_symbols
 simp only [List.length_cons, List.length_nil, if_true, List.map_cons, List.map_nil, List.replicate, List.cons_append, List.nil_append]
 unfold symE at hlc
 simp only [fSeq, fRet, fMk, hlc, Option.map_some, Option.bind_some, retD]
section
variable {σ σ1 σ2 σ3 : LS} {i n : Nat} {d a b : D} {ds es : List D} {io : Bool} {xs : List D} {c r : Bool} {fl : Fl}
theorem e_seq {f g : FnF} {w : Option (Fl × LS)} (h1 : f σ = some (.next, σ1)) (h2 : g σ1 = w) : fSeq f g σ = w := by rw [fSeq, h1]; exact h2
theorem e_seqR {f g : FnF} (h1 : f σ = some (.ret d, σ1)) : fSeq f g σ = some (.ret d, σ1) := by rw [fSeq, h1]; rfl
theorem e_nil : fBNil σ = some (.next, σ) := rfl
theorem e_ifT {α : Type} {t : FnB} {f g : LS → Option (α × LS)} {w : Option (α × LS)} (h1 : t σ = some (true, σ1)) (h2 : f σ1 = w) : fIf t f g σ = w := by rw [fIf, h1]; exact h2
theorem e_ifF {α : Type} {t : FnB} {f g : LS → Option (α × LS)} {w : Option (α × LS)} (h1 : t σ = some (false, σ1)) (h2 : g σ1 = w) : fIf t f g σ = w := by rw [fIf, h1]; exact h2
theorem e_asg {f : FnD} (h : f σ = some (d, σ1)) : fAsg i f σ = some (.next, σ1.set i (.val d)) := by rw [fAsg, h]; rfl
theorem e_ret {f : FnD} (h : f σ = some (d, σ1)) : fRet f σ = some (.ret d, σ1) := by rw [fRet, h]; rfl
theorem e_exp {f : FnD} (h : f σ = some (d, σ1)) : fExp f σ = some (.next, σ1) := by rw [fExp, h]; rfl
theorem e_new {f : FnL} (h : f σ = some (ds, σ1)) (hl : ds.length ≤ bigN) : fNew i f σ = some (.next, σ1.set i (.ownL false ds)) := by rw [fNew, h]; simp only [Option.bind_some, if_pos hl]
theorem e_app {f : FnD} (h0 : ∃ io xs, σ.getD i .non = .ownL io xs) (h1 : f σ = some (d, σ1)) (h2 : σ1.getD i .non = .ownL io xs) (h3 : xs.length ≤ bigN) : fAppend i f σ = some (.next, σ1.set i (.ownL io (xs ++ [d]))) := by
 refine Xee h0 fun io0 xs0 e => ?_
 simp only [fAppend, e, h1, Option.bind_some, h2, if_pos h3]
theorem e_bin {op : Operator} {f g : FnD} (h1 : f σ = some (a, σ1)) (h2 : g σ1 = some (b, σ2)) (h3 : binD op a b = some d) : fBin op f g σ = some (d, σ2) := by simp only [fBin, h1, h2, Option.bind_some, h3]
theorem e_sub {f g : FnD} (h1 : f σ = some (a, σ1)) (h2 : g σ1 = some (b, σ2)) (h3 : subD a b = some d) : fSub f g σ = some (d, σ2) := by simp only [fSub, h1, h2, Option.bind_some, h3]
theorem e_cmp {g : D → D → Option Bool} {f1 f2 : FnD} (h1 : f1 σ = some (a, σ1)) (h2 : f2 σ1 = some (b, σ2)) (h3 : g a b = some r) : fCmp g f1 f2 σ = some (r, σ2) := by simp only [fCmp, h1, h2, Option.bind_some, h3]
theorem e_fB {f : FnB} (h : f σ = some (c, σ1)) : fB f σ = some (.bool c, σ1) := by rw [fB, h]; rfl
theorem e_tru {f : FnD} (h : f σ = some (.bool c, σ1)) : fTru f σ = some (c, σ1) := by rw [fTru, h]; rfl
theorem e_andT {f g : FnB} {w : Option (Bool × LS)} (h1 : f σ = some (true, σ1)) (h2 : g σ1 = w) : fAnd f g σ = w := by rw [fAnd, h1]; exact h2
theorem e_andF {f g : FnB} (h1 : f σ = some (false, σ1)) : fAnd f g σ = some (false, σ1) := by rw [fAnd, h1]; rfl
theorem e_orT {f g : FnB} (h1 : f σ = some (true, σ1)) : fOr f g σ = some (true, σ1) := by rw [fOr, h1]; rfl
theorem e_orF {f g : FnB} {w : Option (Bool × LS)} (h1 : f σ = some (false, σ1)) (h2 : g σ1 = w) : fOr f g σ = w := by rw [fOr, h1]; exact h2
theorem e_call {g : List D → Option D} {f : FnL} (h1 : f σ = some (ds, σ1)) (h2 : g ds = some d) : fCall g f σ = some (d, σ1) := by rw [fCall, h1]; simp only [Option.bind_some, h2, Option.map_some]
theorem e_meth {T : String} {g : D → List D → Option D} {f : FnD} {h : FnL} (h1 : f σ = some (a, σ1)) (h2 : typD a = some T) (h3 : h σ1 = some (ds, σ2)) (h4 : g a ds = some d) : fMeth T g f h σ = some (d, σ2) := by
 simp only [fMeth, h1, Option.bind_some, h2, if_true, h3, h4, Option.map_some]
theorem e_hmeth {g : List D → List D → Option D} {f : FnD} {h : FnL} (h1 : f σ = some (.hdr xs, σ1)) (h3 : h σ1 = some (ds, σ2)) (h4 : g xs ds = some d) : fHmeth g f h σ = some (d, σ2) := by
 simp only [fHmeth, h1, Option.bind_some, h3, h4, Option.map_some]
theorem e_cons {f : FnD} {g : FnL} (h1 : f σ = some (d, σ1)) (h2 : g σ1 = some (ds, σ2)) : fC_ f g σ = some (d :: ds, σ2) := by simp only [fC_, h1, h2, Option.bind_some]
theorem e_lnil : fnl σ = some ([], σ) := rfl
theorem e_tup {f : FnL} (h1 : f σ = some (ds, σ1)) (h2 : ds.length ≤ bigN) : fTup f σ = some (.tup ds, σ1) := by simp only [fTup, h1, Option.bind_some, if_pos h2]
theorem e_lst {f : FnL} (h1 : f σ = some (ds, σ1)) (h2 : ds.length ≤ bigN) : fLst f σ = some (.list ds, σ1) := by simp only [fLst, h1, Option.bind_some, if_pos h2]
theorem e_var (h : σ.getD i .non = .val d) : fv_ i σ = some (d, σ) := by unfold fv_; rw [h]
theorem e_varL (h : σ.getD i .non = .ownL io xs) : fv_ i σ = some (.list xs, σ.set i (.val (.list xs))) := by unfold fv_; rw [h]; rfl
theorem e_varI {es : List (Int × D)} (h : σ.getD i .non = .ownI es) : fv_ i σ = some (.dI es, σ.set i (.val (.dI es))) := by unfold fv_; rw [h]; rfl
theorem e_varT {es : LT} (h : σ.getD i .non = .ownT es) : fv_ i σ = some (.dT es, σ.set i (.val (.dT es))) := by unfold fv_; rw [h]; rfl
theorem e_neg {m : Int} {f : FnD} (h : f σ = some (.int m, σ1)) : fNeg f σ = some (.int (-m), σ1) := by rw [fNeg, h]; rfl
theorem e_lenOwn (h : σ.getD i .non = .ownL io xs) (hl : xs.length ≤ bigN) : fLenOwn i σ = some (.int xs.length, σ) := by unfold fLenOwn; rw [h]; simp only [if_pos hl]
theorem e_lit : (fun σ : LS => some (d, σ)) σ = some (d, σ) := rfl
theorem e_mk {α : Type} {mk : α → D} {v : α} {f : LS → Option (α × LS)} (h : f σ = some (v, σ1)) : fMk mk f σ = some (mk v, σ1) := by rw [fMk, h]; rfl
theorem e_asgC {i : Nat} {f : FnL} (h : f σ = some (ds, σ1)) : fAsgC i f σ = some (.next, σ1.set i (.val (.list ds))) := by rw [fAsgC, h]; rfl
theorem e_asgT {is : List Nat} {f : FnD} (h : f σ = some (d, σ1)) (h2 : gTup is d σ1 = some σ2) : fAsgT is f σ = some (.next, σ2) := by rw [fAsgT, h]; simp only [Option.bind_some, h2, Option.map_some]
theorem e_aug {op : Operator} {f : FnD} (h0 : σ.getD i .non = .val a) (h : f σ = some (b, σ1)) (h2 : augD op a b = some d) : fAug i op f σ = some (.next, σ1.set i (.val d)) := by
 simp only [fAug, h0, h, Option.bind_some, h2, Option.map_some]
theorem e_part {m : Int} {f : FnD} (h : f σ = some (.int m, σ1)) : fPart f σ = some (some m, σ1) := by simp only [fPart, h, Option.bind_some]
theorem e_nopart : fNoPart σ = some (none, σ) := rfl
theorem e_slice {f : FnD} {g h : LS → Option (Option Int × LS)} {lo hi : Option Int} (h1 : f σ = some (.list xs, σ1)) (h2 : g σ1 = some (lo, σ2)) (h3 : h σ2 = some (hi, σ3)) (hl : xs.length ≤ bigN) : fSlice f g h σ = some (.list (sliceL xs lo hi), σ3) := by
 simp only [fSlice, h1, h2, h3, Option.bind_some, if_pos hl]
theorem e_dict1T {fk fe : FnD} {ks : List KS} {m : Int} (h1 : fk σ = some (a, σ1)) (h2 : keyD a = some ks) (h3 : fe σ1 = some (.int m, σ2)) : fDict1T fk fe σ = some (.dT [(ks, m)], σ2) := by
 simp only [fDict1T, h1, Option.bind_some, h2, h3, intD]
theorem e_fors {fi : FnL} {g : D → LS → Option (LS)} {b : FnF} {w : Option (Fl × LS)} (h1 : fi σ = some (ds, σ1)) (h2 : fFor g b ds σ1 = w) : fForS fi g b σ = w := by rw [fForS, h1]; exact h2
theorem e_for {g : D → LS → Option (LS)} {b : FnF} {w : Option (Fl × LS)} (h1 : g d σ = some σ1) (h2 : b σ1 = some (.next, σ2)) (h3 : fFor g b ds σ2 = w) : fFor g b (d :: ds) σ = w := by
 rw [fFor]; simp only [h1, h2, Option.bind_some]; exact h3
theorem e_whileT {t : FnB} {b : FnF} {n : Nat} {w : Option (Fl × LS)} (h1 : t σ = some (true, σ1)) (h2 : b σ1 = some (.next, σ2)) (h3 : fWhile t b n σ2 = w) : fWhile t b (n + 1) σ = w := by
 rw [fWhile]; simp only [h1, Option.bind_some, if_true, h2]; exact h3
theorem e_whileF {t : FnB} {b : FnF} {n : Nat} (h1 : t σ = some (false, σ1)) : fWhile t b (n + 1) σ = some (.next, σ1) := by
 rw [fWhile]; simp only [h1, Option.bind_some, Bool.false_eq_true, if_false]
theorem e_run {m : Nat} {f : FnF} {τ : LS} (hl : ds.length = n) (ht : ds.map Slot.val ++ List.replicate m Slot.non = τ) (h : f τ = some (.ret d, σ1)) : runD n m f ds = some d := by
 unfold runD; rw [if_pos hl, ht, h]; rfl
end
structure Dr where
 nm : Nat → Nat
 op : Nat → Option Nat
 hop : ∀ i k, op i = some k → k < 3 ∧ i < 7
noncomputable def Dr.w (X : Dr) (i : Nat) : Str := match X.op i with
 | some k => sg (X.nm k) k
 | none => letL.getD i ""
noncomputable def great (n : Nat) : Bool := decide (n / 180 % 2 = 1)
noncomputable def Dr.s (X : Dr) (k : Nat) : Tr := sh (X.nm k)
noncomputable def Dr.rt (X : Dr) (k : Nat) : Str := txt (capL (great (X.nm k))) (X.s k)
noncomputable def symb : Tr → List Int := syT fun i => 256 + (i : Nat)
noncomputable def Dr.book (X : Dr) : List (Str × Str) := [(sg (X.nm 0) 0, X.rt 0), (sg (X.nm 1) 1, X.rt 1), (sg (X.nm 2) 2, X.rt 2)]
noncomputable def Dr.key (X : Dr) (i : Nat) : List KS := match X.op i with
 | some k => [.s (X.w i), .i (i : Nat), .s (X.rt k)]
 | none => []
noncomputable def Dr.ru (X : Dr) : Ru where
 n i := match X.op i with
   | some k => ar (X.nm k)
   | none => 0
 S i := match X.op i with
   | some k => X.s k
   | none => .lf 0
 lin i h := by
   cases e : X.op i with
   | none => simp only [e] at h; exact absurd h dc
   | some k => exact sh_lin _
noncomputable def Dr.leafD (X : Dr) (i : Nat) : D := match X.op i with
 | some k => .tup [.list ((symb (X.s k)).map .int), .int (ar (X.nm k) : Nat), .tup [.int 1, .int (ar (X.nm k) : Nat), .int ((2 ^ i : Nat) : Int), .int 0, .dT [(X.key i, 1)]]]
 | none => .tup [.list [], .int 0, .tup [.int 0, .int 0, .int 0, .int 0, .dT []]]
theorem sh_leaves (n : Nat) : (sh n).leaves.length = ar n := by rw [(sh_lin n).length_eq, List.length_range]
theorem ar_pos (n : Nat) : 1 ≤ ar n := by unfold ar; omega
theorem ar_le (n : Nat) : ar n ≤ 3 := by unfold ar; split <;> split <;> lia
theorem sh_lt (n i : Nat) (h : i ∈ (sh n).leaves) : i < 3 := by
 have := (sh_lin n).subset h
 have := List.mem_range.mp this
 have := ar_le n
 omega
theorem capL_ok (g : Bool) (i : Nat) (h : i < 3) : 32 ∉ (capL g i).cps.toList ∧ (capL g i).length ≤ 3 ∧ okText (capL g i) = true := by
 have : ∀ g : Bool, ∀ i, i < 3 → (decide (32 ∉ (capL g i).cps.toList) && decide ((capL g i).length ≤ 3) && okText (capL g i)) = true := by decide +kernel
 have := this g i h
 simp only [Bool.and_eq_true, decide_eq_true_eq] at this
 exact ⟨this.1.1, this.1.2, this.2⟩
theorem rt_symbols (PP : Params) (X : Dr) (k : Nat) : g_law_symbols PP [.str (X.rt k), .hdr (hd namesL)] = some (.list ((symb (X.s k)).map .int)) :=
 symbols_eq (fun i hi => sy_cap PP _ i (sh_lt _ i hi)) (fun i hi => ⟨(capL_ok _ i (sh_lt _ i hi)).1, (capL_ok _ i (sh_lt _ i hi)).2.1⟩) (by rw [Dr.s, sh_leaves]; have := ar_le (X.nm k); lia)
theorem sg_ok {w : Str} (h : w ∈ sgnL) : Txt.lower w = w ∧ okText w = true ∧ w.length ≤ 3 ∧ 32 ∉ w.cps.toList := by
 have h1 := List.all_eq_true.mp sgn_lower w h
 have h2 := List.all_eq_true.mp sgn_text w h
 simp only [Bool.and_eq_true, decide_eq_true_eq, Bool.not_eq_true'] at h2
 refine ⟨by simpa using h1, h2.1.1.1, h2.1.1.2, fun hm => ?_⟩
 have h3 : w.cps.contains 32 = true := by simpa using Array.mem_toList_iff.mp hm
 rw [h3] at h2
 exact absurd h2.1.2 dc
theorem let_ok {i : Nat} (h : i < 7) : okText (letL.getD i "") = true ∧ (letL.getD i "").length ≤ 3 ∧ 32 ∉ (letL.getD i "").cps.toList := by
 have hm : letL.getD i "" ∈ letL := by
   have hl : i < letL.length := h
   rw [List.getD, List.getElem?_eq_getElem hl]
   exact List.getElem_mem hl
 haveI h2 := List.all_eq_true.mp let_text _ hm
 simp only [Bool.and_eq_true, decide_eq_true_eq, Bool.not_eq_true'] at h2
 refine ⟨h2.1.1.1, h2.1.1.2, fun q => ?_⟩
 have h3 : (letL.getD i "").cps.contains 32 = true := by simpa using Array.mem_toList_iff.mp q
 rw [h3] at h2
 exact absurd h2.1.2 dc
theorem w_ok (X : Dr) {i : Nat} (h : i < 7) : (X.w i).length ≤ 3 ∧ 32 ∉ (X.w i).cps.toList := by
 unfold Dr.w
 split
 · rename_i k e
   have := sg_ok (sg_mem (X.nm k) k (X.hop i k e).1)
   exact ⟨this.2.2.1, this.2.2.2⟩
 · exact ⟨(let_ok h).2.1, (let_ok h).2.2⟩
theorem book_get (X : Dr) (k : Nat) (hk : k < 3) : g_get (hd X.book) [.str (sg (X.nm k) k)] = some (.str (X.rt k)) := by
 have hm := sg_mem (X.nm k) k hk
 refine Xaaa (sg_ok hm) fun h1 h2 h3 _ => ?_
 have m0 := sg_ok (sg_mem (X.nm 0) 0 dc)
 haveI m1 := sg_ok (sg_mem (X.nm 1) 1 dc)
 haveI m2 := sg_ok (sg_mem (X.nm 2) 2 dc)
 have hb : ∀ n, n ≤ 3 → n ≤ bigN := fun n h => by unfold bigN; lia
 rw [get_eq (hb _ h3) (by rw [h1]; exact h2) (by rw [h1]; exact hb _ h3) (by
   intro e he
   simp only [Dr.book, List.mem_cons, List.not_mem_nil, or_false] at he
   rcases he with rfl | rfl | rfl
   · exact hb _ m0.2.2.1
   · exact hb _ m1.2.2.1
   · exact hb _ m2.2.2.1)]
 haveI hl : look X.book (Txt.lower (sg (X.nm k) k)) = some (sg (X.nm k) k, X.rt k) := by
   rw [h1]
   unfold look Dr.book
   match k, hk with
   | 0, _ =>
     rw [List.find?_cons_of_pos (by simp [m0.1])]
   | 1, _ =>
     rw [List.find?_cons_of_neg (by rw [m0.1]; simp; intro e; exact absurd (sg_inj dc dc e) dc), List.find?_cons_of_pos (by simp [m1.1])]
   | 2, _ =>
     rw [List.find?_cons_of_neg (by rw [m0.1]; simp; intro e; exact absurd (sg_inj dc dc e) dc), List.find?_cons_of_neg (by rw [m1.1]; simp; intro e; exact absurd (sg_inj dc dc e) dc), List.find?_cons_of_pos (by simp [m2.1])]
 rw [hl]
theorem cmpEq_ne {n m : Int} (h : n ≠ m) : cmpD .Eq (.int n) (.int m) = some false := congrArg some (beq_eq_false_iff_ne.mpr h)
theorem isn_eq (n : Int) : g_ISNONTERMINAL [.int n] = some (.bool (decide (n ≥ 256))) := by kernel_rfl
theorem isn_t {n : Int} (h : n ≥ 256) : g_ISNONTERMINAL [.int n] = some (.bool true) := by rw [isn_eq, decide_eq_true h]
theorem isn_f {n : Int} (h : n < 256) : g_ISNONTERMINAL [.int n] = some (.bool false) := by rw [isn_eq, decide_eq_false (by omega)]
noncomputable def rdB (PP : Params) : FnF := (fSeq (fIf (fCmp (cmpD .Eq) (fv_ 6) (kq (.int 49))) (fSeq (fAppend 3 (fNeg (kq (.int 1)))) fBNil) (fSeq (fAppend 3 (fLenOwn 4)) (fSeq (fIf (fTru (fCall g_ISNONTERMINAL (fC_ (fv_ 6) fnl))) (fSeq (fAppend 4 (fTup (fC_ (fLst fnl) (fC_ (kq (.int 0)) (fC_ (fTup (fC_ (kq (.int 0)) (fC_ (kq (.int 0)) (fC_ (kq (.int 0)) (fC_ (kq (.int 0)) (fC_ (kq (.dT [])) fnl)))))) fnl))))) fBNil) (fSeq (fAsg 7 (fCall (g_law_symbols PP) (fC_ (fHmeth g_get (fv_ 1) (fC_ (fv_ 5) fnl)) (fC_ (fv_ 2) fnl)))) (fSeq (fAsg 8 (fCall gLen (fC_ (fMk .list (fLC (fItL (fun _ => true) (fv_ 7)) ["one"] [] (gName 0) (fTru (fCall g_ISNONTERMINAL (fC_ (fv_ 0) fnl))) (fEmit (fv_ 0)) [])) fnl))) (fSeq (fAppend 4 (fTup (fC_ (fv_ 7) (fC_ (fv_ 8) (fC_ (fTup (fC_ (kq (.int 1)) (fC_ (fv_ 8) (fC_ (fBin .Pow (kq (.int 2)) (fLenOwn 4)) (fC_ (kq (.int 0)) (fC_ (fDict1T (fTup (fC_ (fv_ 5) (fC_ (fLenOwn 4) (fC_ (fHmeth g_get (fv_ 1) (fC_ (fv_ 5) fnl)) fnl)))) (kq (.int 1))) fnl)))))) fnl))))) fBNil)))) fBNil))) fBNil)
theorem read_form (PP : Params) : f_law_read g_ISNONTERMINAL g_get (g_law_symbols PP) = fSeq (fNew 3 fnl) (fSeq (fNew 4 fnl) (fSeq (fForS (fZip (fMeth "str" gSplit (fv_ 0) (fC_ (kq (.str " ")) fnl)) (fCall (g_law_symbols PP) (fC_ (fv_ 0) (fC_ (fv_ 2) fnl)))) (gTup [5, 6]) (rdB PP)) (fSeq (fRet (fTup (fC_ (fv_ 3) (fC_ (fv_ 4) fnl)))) fBNil))) := rfl
noncomputable def Dr.tk (X : Dr) (PP : Params) (i : Nat) : Int := match syv PP (.str (X.w i)) with
 | .int n => n
 | _ => 0
theorem tk_eq {X : Dr} {PP : Params} {i : Nat} {n : Int} (h : Sy PP (X.w i) n) : X.tk PP i = n := by unfold Dr.tk; rw [h.v]
theorem tk_none {X : Dr} {PP : Params} {i : Nat} (hi : i < 7) (h : X.op i = none) : Sy PP (X.w i) (256 + (i : Nat)) := by
 have : X.w i = letL.getD i "" := by unfold Dr.w; rw [h]
 rw [this]; exact sy_let PP i hi
theorem tk_some {X : Dr} {PP : Params} {i k : Nat} (h : X.op i = some k) : ∃ n, Sy PP (X.w i) n ∧ n < 256 ∧ n ≠ 49 := by
 have : X.w i = sg (X.nm k) k := by unfold Dr.w; rw [h]
 rw [this]; exact sy_sgn PP (sg_mem _ _ (X.hop i k h).1)
theorem tk_sy {X : Dr} {PP : Params} {i : Nat} (hi : i < 7) : Sy PP (X.w i) (X.tk PP i) := by
 cases h : X.op i with
 | none => have := tk_none (PP := PP) hi h; rw [tk_eq this]; exact this
 | some k => refine Xea (tk_some (PP := PP) h) fun n h1 _ => ?_; rw [tk_eq h1]; exact h1
noncomputable def geI (d : D) : Bool := match d with
 | .int n => decide (n ≥ 256)
 | _ => false
theorem symb_count (t : Tr) : (((symb t).map D.int).filter geI).length = t.leaves.length := by
 induction t with
 | lf i =>
   haveI : geI (.int (256 + (i : Nat))) = true := by simp only [geI, decide_eq_true_eq]; lia
   simp [symb, syT, this, Tr.leaves]
 | ap l r hl hr =>
   haveI h0 : geI (.int 49) = false := rfl
   haveI : symb (.ap l r) = 49 :: (symb l ++ symb r) := rfl
   rw [this]
   simp only [List.map_cons, List.map_append, List.filter_cons, h0, Bool.false_eq_true, if_false, List.filter_append, List.length_append, hl, hr, Tr.leaves]
section
variable {T : Slot} {X : Dr} {PP : Params} {R L : List D} {s5 s6 s7 s8 : Slot}
noncomputable abbrev Bk (X : Dr) : Slot := .val (.hdr (hd X.book))
noncomputable abbrev Nm : Slot := .val (.hdr (hd namesL))
theorem rd_at {x : Str} (hR : R.length ≤ bigN) : rdB PP [T, Bk X, Nm, .ownL false R, .ownL false L, .val (.str x), .val (.int 49), s7, s8] = some (.next, [T, Bk X, Nm, .ownL false (R ++ [.int (-1)]), .ownL false L, .val (.str x), .val (.int 49), s7, s8]) :=
 e_seq (e_ifT (e_cmp (e_var rfl) e_lit rfl) (e_seq (e_app ⟨_, _, rfl⟩ (e_neg e_lit) rfl hR) e_nil)) e_nil
theorem rd_let {x : Str} {n : Int} (hn : n ≥ 256) (hR : R.length ≤ bigN) (hL : L.length ≤ bigN) : rdB PP [T, Bk X, Nm, .ownL false R, .ownL false L, .val (.str x), .val (.int n), s7, s8] =
   some (.next, [T, Bk X, Nm, .ownL false (R ++ [.int L.length]), .ownL false (L ++ [.tup [.list [], .int 0, .tup [.int 0, .int 0, .int 0, .int 0, .dT []]]]), .val (.str x), .val (.int n), s7, s8]) :=
 haveI tl : ∀ n, n ≤ 5 → n ≤ bigN := fun n h => by unfold bigN; lia
 e_seq (e_ifF (e_cmp (e_var rfl) e_lit (cmpEq_ne (by omega))) (e_seq (e_app ⟨_, _, rfl⟩ (e_lenOwn rfl hL) rfl hR) (e_seq (e_ifT (e_tru (e_call (e_cons (e_var rfl) e_lnil) (isn_t hn)))
   (e_seq (e_app ⟨_, _, rfl⟩ (e_tup (e_cons (e_lst e_lnil (tl _ dc)) (e_cons e_lit (e_cons (e_tup (e_cons e_lit (e_cons e_lit (e_cons e_lit (e_cons e_lit (e_cons e_lit e_lnil))))) (tl _ (Nat.le_refl 5))) e_lnil))) (tl _ (by decide : 3 ≤ 5))) rfl hL) e_nil)) e_nil))) e_nil
theorem rd_op {k : Nat} {n : Int} (hi : L.length < 7) (ho : X.op L.length = some k) (hn : n < 256) (hn9 : n ≠ 49) (hR : R.length ≤ bigN) : ∃ s7' s8', rdB PP [T, Bk X, Nm, .ownL false R, .ownL false L, .val (.str (X.w L.length)), .val (.int n), s7, s8] =
   some (.next, [T, Bk X, Nm, .ownL false (R ++ [.int L.length]), .ownL false (L ++ [X.leafD L.length]), .val (.str (X.w L.length)), .val (.int n), s7', s8']) := by
 have tl : ∀ n, n ≤ 5 → n ≤ bigN := fun n h => by unfold bigN; omega
 have hL : L.length ≤ bigN := by unfold bigN; omega
 have hk := (X.hop _ k ho).1
 have hw : X.w L.length = sg (X.nm k) k := by unfold Dr.w; rw [ho]
 have hg := book_get X k hk
 rw [← hw] at hg
 haveI hs := rt_symbols PP X k
 haveI hlen : ((symb (X.s k)).map D.int).length ≤ bigN := by
   have : (symb (X.s k)).length + 1 = 2 * (X.s k).leaves.length := by
     generalize X.s k = t
     induction t with
     | lf i => rfl
     | ap l r hl hr => show (49 :: (symb l ++ symb r)).length + 1 = _; simp only [Tr.leaves, List.length_cons, List.length_append]; exact tw hl hr
   rw [Dr.s, sh_leaves] at this
   have := ar_le (X.nm k)
   rw [List.length_map, Dr.s]; unfold bigN; lia
 have hcount : (((symb (X.s k)).map D.int).filter geI).length = ar (X.nm k) := by rw [symb_count, Dr.s, sh_leaves]
 haveI hpow : binD .Pow (.int 2) (.int (L.length : Nat)) = some (.int ((2 ^ L.length : Nat) : Int)) := by
   haveI h1 : (0 : Int) ≤ (L.length : Nat) ∧ ((L.length : Nat) : Int) ≤ 1000 ∧ okI 2 := ⟨by omega, by omega, by decide⟩
   refine (if_pos (e := none) h1).trans ?_
   rw [Int.toNat_natCast]
   rw [Int.natCast_pow]; rfl
 haveI hlc : ∀ s8 : Slot, fLC (fItL (fun _ => true) (fv_ 7)) ["one"] [] (gName 0) (fTru (fCall g_ISNONTERMINAL (fC_ (fv_ 0) fnl))) (fEmit (fv_ 0)) [] [T, Bk X, Nm, .ownL false (R ++ [.int L.length]), .ownL false L, .val (.str (X.w L.length)), .val (.int n), .val (.list ((symb (X.s k)).map .int)), s8] =
     some ((((symb (X.s k)).map D.int).filter geI).map id, [T, Bk X, Nm, .ownL false (R ++ [.int L.length]), .ownL false L, .val (.str (X.w L.length)), .val (.int n), .val (.list ((symb (X.s k)).map .int)), s8]) := fun s8 => by
   refine lc_filter (x := "one") (fr := []) (rest := []) (p := geI) (h := id) rfl rfl (fun d hd => ?_) (fun d hd => rfl) hlen
   refine Xea (List.mem_map.mp hd) fun m _ q2 => ?_; subst q2
   exact e_tru (e_call (e_cons (e_var rfl) e_lnil) (isn_eq m))
 haveI hgl : gLen [.list ((((symb (X.s k)).map D.int).filter geI).map id)] = some (.int (ar (X.nm k) : Nat)) := by
   have : ar (X.nm k) ≤ bigN := by have := ar_le (X.nm k); exact tl _ (by lia)
   simp only [gLen, on1, List.map_id, hcount, if_pos this]
 refine Iee (.val (.list ((symb (X.s k)).map .int))) (.val (.int (ar (X.nm k) : Nat))) ?_
 haveI hleaf : X.leafD L.length = .tup [.list ((symb (X.s k)).map .int), .int (ar (X.nm k) : Nat), .tup [.int 1, .int (ar (X.nm k) : Nat), .int ((2 ^ L.length : Nat) : Int), .int 0, .dT [([.s (X.w L.length), .i (L.length : Nat), .s (X.rt k)], 1)]]] := by
   unfold Dr.leafD Dr.key; rw [ho]
 rw [hleaf]
 exact e_seq (e_ifF (e_cmp (e_var rfl) e_lit (cmpEq_ne hn9)) (e_seq (e_app ⟨_, _, rfl⟩ (e_lenOwn rfl hL) rfl hR) (e_seq (e_ifF (e_tru (e_call (e_cons (e_var rfl) e_lnil) (isn_f hn)))
   (e_seq (e_asg (e_call (e_cons (e_hmeth (e_var rfl) (e_cons (e_var rfl) e_lnil) hg) (e_cons (e_var rfl) e_lnil)) hs))
   (e_seq (e_asg (e_call (e_cons (e_mk (hlc _)) e_lnil) hgl))
   (e_seq (e_app ⟨_, _, rfl⟩ (e_tup (e_cons (e_var rfl) (e_cons (e_var rfl) (e_cons (e_tup (e_cons e_lit (e_cons (e_var rfl) (e_cons (e_bin e_lit (e_lenOwn rfl hL) hpow) (e_cons e_lit (e_cons (e_dict1T (e_tup (e_cons (e_var rfl) (e_cons (e_lenOwn rfl hL) (e_cons (e_hmeth (e_var rfl) (e_cons (e_var rfl) e_lnil) hg) e_lnil))) (tl _ (by decide : 3 ≤ 5))) rfl e_lit) e_lnil))))) (tl _ (Nat.le_refl 5))) e_lnil))) (tl _ (by decide : 3 ≤ 5))) rfl hL) e_nil)))) e_nil))) e_nil
end
theorem zipD_app {a c : List D} (b d : List D) (h : a.length = c.length) : zipD (a ++ b) (c ++ d) = zipD a c ++ zipD b d := by
 unfold zipD; rw [List.zip_append h, List.map_append]
theorem syT_len (f : Nat → Int) (t : Tr) : (syT f t).length + 1 = 2 * t.leaves.length := by
 induction t with
 | lf i => rfl
 | ap l r hl hr => simp only [syT, Tr.leaves, List.length_cons, List.length_append]; exact tw hl hr
theorem read_tree {T : Slot} {X : Dr} {PP : Params} : ∀ (t : Tr) (m : Nat) (R L rest : List D) (s5 s6 s7 s8 : Slot), t.leaves = List.range' m t.leaves.length → m + t.leaves.length ≤ 7 → L.length = m → R.length + (row t).length ≤ 100 →
   ∃ s5' s6' s7' s8', fFor (gTup [5, 6]) (rdB PP) (zipD ((wds X.w t).map .str) ((syT (X.tk PP) t).map .int) ++ rest) [T, Bk X, Nm, .ownL false R, .ownL false L, s5, s6, s7, s8] =
     fFor (gTup [5, 6]) (rdB PP) rest [T, Bk X, Nm, .ownL false (R ++ (row t).map .int), .ownL false (L ++ (List.range' m t.leaves.length).map X.leafD), s5', s6', s7', s8']
 | .lf i, m, R, L, rest, s5, s6, s7, s8, hl, hm, hL, hR => by
   have him : i = m := by simpa [Tr.leaves, List.range'] using hl
   subst him
   have hi : i < 7 := by simp [Tr.leaves] at hm; omega
   have hRb : R.length ≤ bigN := by unfold bigN; omega
   have hLb : L.length ≤ bigN := by unfold bigN; omega
   haveI hsy := tk_sy (X := X) (PP := PP) hi
   cases ho : X.op i with
   | none =>
     have htk := tk_eq (tk_none (PP := PP) hi ho)
     have hleaf : X.leafD i = .tup [.list [], .int 0, .tup [.int 0, .int 0, .int 0, .int 0, .dT []]] := by unfold Dr.leafD; rw [ho]
     refine Ieeee (.val (.str (X.w i))) (.val (.int (X.tk PP i))) s7 s8 ?_
     haveI := rd_let (T := T) (X := X) (PP := PP) (s7 := s7) (s8 := s8) (x := X.w i) (n := X.tk PP i) (by rw [htk]; lia) hRb hLb
     refine e_for (σ1 := [T, Bk X, Nm, .ownL false R, .ownL false L, .val (.str (X.w i)), .val (.int (X.tk PP i)), s7, s8]) rfl this ?_
     rw [hL, ← hleaf]; rfl
   | some k =>
     obtain ⟨n, h1, h2, h3⟩ := tk_some (PP := PP) ho
     have htk := tk_eq h1
     obtain ⟨s7', s8', this⟩ := rd_op (T := T) (X := X) (PP := PP) (R := R) (L := L) (s7 := s7) (s8 := s8) (k := k) (n := X.tk PP i) (by omega) (by rw [hL]; exact ho) (by rw [htk]; exact h2) (by rw [htk]; exact h3) hRb
     rw [hL] at this
     refine Ieeee (.val (.str (X.w i))) (.val (.int (X.tk PP i))) s7' s8' ?_
     exact e_for (σ1 := [T, Bk X, Nm, .ownL false R, .ownL false L, .val (.str (X.w i)), .val (.int (X.tk PP i)), s7, s8]) rfl this rfl
 | .ap l r, m, R, L, rest, s5, s6, s7, s8, hl, hm, hL, hR => by
   simp only [Tr.leaves, List.length_append] at hl hm
   rw [← List.range'_append_1] at hl
   refine Xa (List.append_inj hl (by simp)) fun hl1 hl2 => ?_
   simp only [row, List.length_cons, List.length_append] at hR
   haveI hz : zipD ((wds X.w (.ap l r)).map .str) ((syT (X.tk PP) (.ap l r)).map .int) ++ rest = .tup [.str "@", .int 49] :: (zipD ((wds X.w l).map .str) ((syT (X.tk PP) l).map .int) ++ (zipD ((wds X.w r).map .str) ((syT (X.tk PP) r).map .int) ++ rest)) := by
     haveI hlen : ((wds X.w l).map D.str).length = ((syT (X.tk PP) l).map D.int).length := by
       have := wds_len X.w l; have := syT_len (X.tk PP) l; simp only [List.length_map]; lia
     simp only [wds, syT, List.map_cons, List.map_append]
     rw [← List.append_assoc, ← zipD_app _ _ hlen]
     rfl
   obtain ⟨a5, a6, a7, a8, e1⟩ := read_tree l m (R ++ [.int (-1)]) L (zipD ((wds X.w r).map .str) ((syT (X.tk PP) r).map .int) ++ rest) (.val (.str "@")) (.val (.int 49)) s7 s8 hl1 (by omega) hL (by simp; omega)
   obtain ⟨b5, b6, b7, b8, e2⟩ := read_tree r (m + l.leaves.length) (R ++ [.int (-1)] ++ (row l).map .int) (L ++ (List.range' m l.leaves.length).map X.leafD) rest a5 a6 a7 a8 hl2 (by omega) (by simp [hL]) (by simp; omega)
   refine Ieeee b5 b6 b7 b8 ?_
   rw [hz]
   refine e_for (σ1 := [T, Bk X, Nm, .ownL false R, .ownL false L, .val (.str "@"), .val (.int 49), s7, s8]) rfl (rd_at (by unfold bigN; omega)) ?_
   rw [e1, e2]
   simp only [row, Tr.leaves, List.length_append, List.map_cons, List.map_append, List.append_assoc, List.cons_append, List.nil_append]
   rw [← List.range'_append_1, List.map_append]
theorem read_eq {X : Dr} {PP : Params} {t : Tr} (hl : t.leaves = List.range 7) : g_law_read PP [.str (txt X.w t), .hdr (hd X.book), .hdr (hd namesL)] = some (.tup [.list ((row t).map .int), .list ((List.range 7).map X.leafD)]) := by
 have hlen : t.leaves.length = 7 := by rw [hl]; rfl
 have hlt : ∀ i ∈ t.leaves, i < 7 := fun i hi => by rw [hl] at hi; exact List.mem_range.mp hi
 haveI hsym := symbols_eq (PP := PP) (w := X.w) (f := X.tk PP) (t := t) (fun i hi => tk_sy (hlt i hi)) (fun i hi => ⟨(w_ok X (hlt i hi)).2, (w_ok X (hlt i hi)).1⟩) (by omega)
 haveI hsp := txt_split (w := X.w) (t := t) fun i hi => (w_ok X (hlt i hi)).2
 haveI htl := txt_len (w := X.w) (t := t) fun i hi => (w_ok X (hlt i hi)).1
 haveI hb : (" " : Str).length ≠ 0 ∧ (txt X.w t).length ≤ bigN := ⟨by decide +kernel, by unfold bigN; lia⟩
 haveI hsplit : gSplit (.str (txt X.w t)) [.str " "] = some (.list ((wds X.w t).map .str)) := by
   show (if (" " : Str).length ≠ 0 ∧ (txt X.w t).length ≤ bigN then some (D.list ((Txt.split (txt X.w t) " ").map D.str)) else none) = _
   rw [if_pos hb, hsp]
 haveI hrow := row_length (t := t)
 refine Xeeee (read_tree (T := .val (.str (txt X.w t))) (X := X) (PP := PP) t 0 [] [] [] .non .non .non .non (by rw [hl]; rfl) (by omega) rfl (by simp; lia)) fun s5 s6 s7 s8 e => ?_
 rw [List.append_nil, hlen, ← List.range_eq_range'] at e
 haveI tl : ∀ n, n ≤ 20 → n ≤ bigN := fun n h => by unfold bigN; lia
 haveI ez : fZip (fMeth "str" gSplit (fv_ 0) (fC_ (kq (.str " ")) fnl)) (fCall (g_law_symbols PP) (fC_ (fv_ 0) (fC_ (fv_ 2) fnl))) [.val (.str (txt X.w t)), Bk X, Nm, .ownL false [], .ownL false [], .non, .non, .non, .non] =
     some (zipD ((wds X.w t).map .str) ((syT (X.tk PP) t).map .int), [.val (.str (txt X.w t)), Bk X, Nm, .ownL false [], .ownL false [], .non, .non, .non, .non]) := by
   haveI a1 : fMeth "str" gSplit (fv_ 0) (fC_ (kq (.str " ")) fnl) [.val (.str (txt X.w t)), Bk X, Nm, .ownL false [], .ownL false [], .non, .non, .non, .non] = some (.list ((wds X.w t).map .str), [.val (.str (txt X.w t)), Bk X, Nm, .ownL false [], .ownL false [], .non, .non, .non, .non]) :=
     e_meth (e_var rfl) rfl (e_cons e_lit e_lnil) hsplit
   haveI a2 : fCall (g_law_symbols PP) (fC_ (fv_ 0) (fC_ (fv_ 2) fnl)) [.val (.str (txt X.w t)), Bk X, Nm, .ownL false [], .ownL false [], .non, .non, .non, .non] = some (.list ((syT (X.tk PP) t).map .int), [.val (.str (txt X.w t)), Bk X, Nm, .ownL false [], .ownL false [], .non, .non, .non, .non]) :=
     e_call (e_cons (e_var rfl) (e_cons (e_var rfl) e_lnil)) hsym
   simp only [fZip, a1, a2, Option.bind_some]
 unfold g_law_read
 haveI main : ∃ σ1, f_law_read g_ISNONTERMINAL g_get (g_law_symbols PP) [.val (.str (txt X.w t)), Bk X, Nm, .non, .non, .non, .non, .non, .non] = some (.ret (.tup [.list ((row t).map .int), .list ((List.range 7).map X.leafD)]), σ1) := by
   rw [read_form]
   exact ⟨_, e_seq (e_new e_lnil (tl _ dc)) (e_seq (e_new e_lnil (tl _ dc)) (e_seq (e_fors ez (e.trans rfl)) (e_seqR (e_ret (e_tup (e_cons (e_varL rfl) (e_cons (e_varL rfl) e_lnil)) (tl _ (by decide : 2 ≤ 20)))))))⟩
 refine Xe main fun σ1 h => ?_
 exact e_run rfl rfl h
noncomputable def wT : FnB := fCmp (cmpD .Gt) (fv_ 12) (kq (.int 0))
noncomputable def wB : FnF := fSeq (fAug 12 .Add (fIf (fCmp (cmpD .Lt) (fSub (fv_ 0) (fv_ 7)) (kq (.int 0))) (kq (.int 1)) (fNeg (kq (.int 1))))) (fSeq (fAug 7 .Add (kq (.int 1))) fBNil)
noncomputable def pB : FnF := fSeq (fAsg 11 (fv_ 7)) (fSeq (fAsg 12 (kq (.int 1))) (fSeq (fWhile wT wB 100000) (fSeq (fAppend 6 (fSlice (fv_ 0) (fPart (fv_ 11)) (fPart (fv_ 7)))) fBNil)))
noncomputable def mB : FnF := fSeq (fAsg 9 (fBin .Add (fv_ 9) (fIf (fTru (fCall g_ISNONTERMINAL (fC_ (fv_ 10) fnl))) (fSub (fv_ 6) (fBin .Sub (fv_ 10) (kq (.int 256)))) (fLst (fC_ (fNeg (kq (.int 1))) fnl))))) fBNil
noncomputable def oT : FnB := fAnd (fCmp (cmpD .Gt) (fv_ 5) (kq (.int 0))) (fAnd (fCmp (cmpD .GtE) (fv_ 3) (fv_ 5)) (fAnd (fCmp (cmpD .Lt) (fCall gMax (fC_ (fSlice (fv_ 0) (fPart (fBin .Sub (fv_ 3) (fv_ 5))) (fPart (fv_ 3))) fnl)) (kq (.int 0))) fAndN))
noncomputable def oA : FnF := fAppend 2 (fTup (fC_ (fv_ 4) (fC_ (fBin .Add (fBin .Add (fSlice (fv_ 0) fNoPart (fPart (fBin .Sub (fv_ 3) (fv_ 5)))) (fv_ 9)) (fSlice (fv_ 0) (fPart (fv_ 7)) fNoPart)) fnl)))
noncomputable def oI : FnF := fSeq (fNew 6 fnl) (fSeq (fAsg 7 (fBin .Add (fv_ 3) (kq (.int 1)))) (fSeq (fForS (fRange (fv_ 5)) (gName 8) pB) (fSeq (fNew 9 fnl) (fSeq (fForS (fItL (fun _ => true) (fSub (fSub (fv_ 1) (fv_ 4)) (kq (.int 0)))) (gName 10) mB) (fSeq oA fBNil)))))
noncomputable def oB : FnF := fSeq (fAsg 5 (fIf (fCmp (cmpD .GtE) (fv_ 4) (kq (.int 0))) (fSub (fSub (fv_ 1) (fv_ 4)) (kq (.int 1))) (kq (.int 0)))) (fSeq (fIf oT oI fBNil) fBNil)
theorem steps_form : f_law_steps g_ISNONTERMINAL = fSeq (fNew 2 fnl) (fSeq (fForS (fEnum (fv_ 0)) (gTup [3, 4]) oB) (fSeq (fRet (fv_ 2)) fBNil)) := rfl
section
variable {s0 s1 s2 s3 s4 s5 s6 s7 s8 s9 s10 s11 s12 : Slot} {ru : Ru}
theorem sub_row {pre post : List Int} {v : Int} (h : pre.length < 1000) : subD (.list ((pre ++ v :: post).map D.int)) (.int (pre.length : Nat)) = some (.int v) := by
 have h1 : (0 : Int) ≤ ((pre.length : Nat) : Int) ∧ ((pre.length : Nat) : Int) < 1000 := by omega
 refine (if_pos (e := none) h1).trans ?_
 rw [Int.toNat_natCast]
 simp
theorem w_turn {pre post : List Int} {v nd : Int} (h : pre.length < 1000) : wB [.val (.list ((pre ++ v :: post).map D.int)), s1, s2, s3, s4, s5, s6, .val (.int (pre.length : Nat)), s8, s9, s10, s11, .val (.int nd)] =
   some (.next, [.val (.list ((pre ++ v :: post).map D.int)), s1, s2, s3, s4, s5, s6, .val (.int ((pre.length : Nat) + 1)), s8, s9, s10, s11, .val (.int (nd + if v < 0 then 1 else -1))]) := by
 by_cases hv : v < 0
 · rw [if_pos hv]
   exact e_seq (e_aug rfl (e_ifT (e_cmp (e_sub (e_var rfl) (e_var rfl) (sub_row h)) e_lit (congrArg some (decide_eq_true hv))) e_lit) rfl) (e_seq (e_aug rfl e_lit rfl) e_nil)
 · rw [if_neg hv]
   exact e_seq (e_aug rfl (e_ifF (e_cmp (e_sub (e_var rfl) (e_var rfl) (sub_row h)) e_lit (congrArg some (decide_eq_false hv))) (e_neg e_lit)) rfl) (e_seq (e_aug rfl e_lit rfl) e_nil)
theorem w_test {nd : Int} (h : 0 < nd) : wT [s0, s1, s2, s3, s4, s5, s6, s7, s8, s9, s10, s11, .val (.int nd)] = some (true, [s0, s1, s2, s3, s4, s5, s6, s7, s8, s9, s10, s11, .val (.int nd)]) :=
 e_cmp (e_var rfl) e_lit (congrArg some (decide_eq_true h))
theorem wh_tree : ∀ (t : Tr) (pre post : List Int) (nd n : Nat), pre.length + (row t).length < 1000 →
   fWhile wT wB (n + (row t).length) [.val (.list ((pre ++ (row t ++ post)).map D.int)), s1, s2, s3, s4, s5, s6, .val (.int (pre.length : Nat)), s8, s9, s10, s11, .val (.int ((nd : Int) + 1))] =
     fWhile wT wB n [.val (.list ((pre ++ (row t ++ post)).map D.int)), s1, s2, s3, s4, s5, s6, .val (.int ((pre.length + (row t).length : Nat))), s8, s9, s10, s11, .val (.int nd)]
 | .lf i, pre, post, nd, n, h => by
   haveI ht := w_turn (s1 := s1) (s2 := s2) (s3 := s3) (s4 := s4) (s5 := s5) (s6 := s6) (s8 := s8) (s9 := s9) (s10 := s10) (s11 := s11) (pre := pre) (post := post) (v := (i : Nat)) (nd := (nd : Int) + 1) (by omega)
   rw [if_neg (by omega)] at ht
   have e1 : ((nd : Int) + 1 + -1) = nd := by lia
   rw [e1] at ht
   exact e_whileT (w_test (by omega)) ht rfl
 | .ap l r, pre, post, nd, n, h => by
   simp only [row, List.length_cons, List.length_append] at h
   haveI ht := w_turn (s1 := s1) (s2 := s2) (s3 := s3) (s4 := s4) (s5 := s5) (s6 := s6) (s8 := s8) (s9 := s9) (s10 := s10) (s11 := s11) (pre := pre) (post := row l ++ row r ++ post) (v := -1) (nd := (nd : Int) + 1) (by omega)
   rw [if_pos (by omega)] at ht
   have e0 : n + (row (.ap l r)).length = ((n + (row r).length) + (row l).length) + 1 := by simp only [row, List.length_cons, List.length_append]; lia
   haveI ih1 := wh_tree l (pre ++ [-1]) (row r ++ post) (nd + 1) (n + (row r).length) (by simp; omega)
   haveI ih2 := wh_tree r (pre ++ [-1] ++ row l) post nd n (by simp; omega)
   rw [e0]
   refine e_whileT (σ2 := [.val (.list ((pre ++ (row (.ap l r) ++ post)).map D.int)), s1, s2, s3, s4, s5, s6, .val (.int ((pre.length : Nat) + 1)), s8, s9, s10, s11, .val (.int ((nd : Int) + 1 + 1))]) (w_test (by omega)) ht ?_
   haveI el : pre ++ (row (.ap l r) ++ post) = (pre ++ [-1]) ++ (row l ++ (row r ++ post)) := by simp [row]
   haveI er : (pre ++ [-1]) ++ (row l ++ (row r ++ post)) = (pre ++ [-1] ++ row l) ++ (row r ++ post) := by simp
   haveI c1 : (((pre.length : Nat) : Int) + 1) = (((pre ++ [-1]).length : Nat) : Int) := by simp
   haveI c2 : ((nd : Int) + 1 + 1) = (((nd + 1 : Nat) : Int) + 1) := by lia
   haveI c3 : (pre ++ [-1]).length + (row l).length = (pre ++ [-1] ++ row l).length := by simp only [List.length_append, List.length_cons, List.length_nil]
   haveI c4 : pre.length + (row (.ap l r)).length = (pre ++ [-1] ++ row l).length + (row r).length := by simp only [row, List.length_append, List.length_cons, List.length_nil]; lia
   rw [el, c1, c2, ih1, er, c3, c4]
   exact ih2
theorem clip_nat (n m : Nat) (h : m ≤ n) : clipAt n (m : Int) = m := by unfold clipAt; rw [if_neg (by omega)]; omega
theorem slice_mid (a b c : List D) : sliceL (a ++ (b ++ c)) (some (a.length : Nat)) (some ((a.length + b.length : Nat))) = b := by
 unfold sliceL
 simp only [Option.elim_some]
 rw [clip_nat _ _ (by simp), clip_nat _ _ (by simp)]
 simp
theorem slice_hd (a b : List D) : sliceL (a ++ b) none (some (a.length : Nat)) = a := by
 unfold sliceL
 simp only [Option.elim_some, Option.elim_none]
 rw [clip_nat _ _ (by simp)]
 simp
theorem slice_tl (a b : List D) : sliceL (a ++ b) (some (a.length : Nat)) none = b := by
 unfold sliceL
 simp only [Option.elim_some, Option.elim_none]
 rw [clip_nat _ _ (by simp)]
 simp
theorem p_turn {y : Tr} {pre post : List Int} {io : Bool} {ps : List D} (h : (pre ++ (row y ++ post)).length < 1000) (hp : ps.length ≤ bigN) : pB [.val (.list ((pre ++ (row y ++ post)).map D.int)), s1, s2, s3, s4, s5, .ownL io ps, .val (.int (pre.length : Nat)), s8, s9, s10, s11, s12] =
   some (.next, [.val (.list ((pre ++ (row y ++ post)).map D.int)), s1, s2, s3, s4, s5, .ownL io (ps ++ [.list ((row y).map D.int)]), .val (.int ((pre.length + (row y).length : Nat))), s8, s9, s10, .val (.int (pre.length : Nat)), .val (.int 0)]) := by
 have hl : pre.length + (row y).length < 1000 := by simp at h; lia
 haveI hw := wh_tree (s1 := s1) (s2 := s2) (s3 := s3) (s4 := s4) (s5 := s5) (s6 := .ownL io ps) (s8 := s8) (s9 := s9) (s10 := s10) (s11 := .val (.int (pre.length : Nat))) y pre post 0 (99999 - (row y).length + 1) hl
 haveI e0 : 99999 - (row y).length + 1 + (row y).length = 100000 := by omega
 rw [e0] at hw
 haveI hs : sliceL ((pre ++ (row y ++ post)).map D.int) (some (pre.length : Nat)) (some ((pre.length + (row y).length : Nat))) = (row y).map D.int := by
   haveI := slice_mid (pre.map D.int) ((row y).map D.int) (post.map D.int)
   simp only [List.length_map] at this
   rw [List.map_append, List.map_append]; exact this
 haveI hb : ((pre ++ (row y ++ post)).map D.int).length ≤ bigN := by rw [List.length_map]; unfold bigN; omega
 haveI hend : fWhile wT wB (99999 - (row y).length + 1) [.val (.list ((pre ++ (row y ++ post)).map D.int)), s1, s2, s3, s4, s5, .ownL io ps, .val (.int ((pre.length + (row y).length : Nat))), s8, s9, s10, .val (.int (pre.length : Nat)), .val (.int (0 : Nat))] = some (.next, [.val (.list ((pre ++ (row y ++ post)).map D.int)), s1, s2, s3, s4, s5, .ownL io ps, .val (.int ((pre.length + (row y).length : Nat))), s8, s9, s10, .val (.int (pre.length : Nat)), .val (.int (0 : Nat))]) := e_whileF (e_cmp (e_var rfl) e_lit rfl)
 rw [hend] at hw
 rw [← hs]
 exact e_seq (e_asg (e_var rfl)) (e_seq (e_asg e_lit) (e_seq (hw.trans rfl) (e_seq (e_app ⟨_, _, rfl⟩ (e_slice (e_var rfl) (e_part (e_var rfl)) (e_part (e_var rfl)) hb) rfl hp) e_nil)))
theorem p_loop : ∀ (ys : List Tr) (ds : List D) (pre post : List Int) (ps : List D) (s8 s11 s12 : Slot), ds.length = ys.length → (pre ++ (rows ys ++ post)).length < 1000 → ps.length + ys.length ≤ bigN →
   ∃ s8' s11' s12', fFor (gName 8) pB ds [.val (.list ((pre ++ (rows ys ++ post)).map D.int)), s1, s2, s3, s4, s5, .ownL false ps, .val (.int (pre.length : Nat)), s8, s9, s10, s11, s12] =
     some (.next, [.val (.list ((pre ++ (rows ys ++ post)).map D.int)), s1, s2, s3, s4, s5, .ownL false (ps ++ ys.map fun y => .list ((row y).map D.int)), .val (.int ((pre.length + (rows ys).length : Nat))), s8', s9, s10, s11', s12'])
 | [], [], pre, post, ps, s8, s11, s12, _, _, _ => ⟨s8, s11, s12, by simp [fFor, rows]⟩
 | [], _ :: _, _, _, _, _, _, _, h, _, _ => by cases h
 | _ :: _, [], _, _, _, _, _, _, h, _, _ => by cases h
 | y :: ys, d :: ds, pre, post, ps, s8, s11, s12, hl, h, hp => by
   simp only [List.length_cons] at hl hp
   have e1 : pre ++ (rows (y :: ys) ++ post) = pre ++ (row y ++ (rows ys ++ post)) := by rw [rows_cons]; simp
   have e2 : pre ++ (row y ++ (rows ys ++ post)) = (pre ++ row y) ++ (rows ys ++ post) := by simp
   rw [e1] at h
   haveI ht := p_turn (s1 := s1) (s2 := s2) (s3 := s3) (s4 := s4) (s5 := s5) (s8 := .val d) (s9 := s9) (s10 := s10) (s11 := s11) (s12 := s12) (y := y) (pre := pre) (post := rows ys ++ post) (io := false) (ps := ps) h (by omega)
   refine Xeee (p_loop ys ds (pre ++ row y) post (ps ++ [.list ((row y).map D.int)]) (.val d) (.val (.int (pre.length : Nat))) (.val (.int 0)) (by lia) (by rw [← e2]; exact h) (by simp; lia)) fun t8 t11 t12 ih => ?_
   refine Ieee t8 t11 t12 ?_
   rw [e1]
   refine e_for (σ1 := [.val (.list ((pre ++ (row y ++ (rows ys ++ post))).map D.int)), s1, s2, s3, s4, s5, .ownL false ps, .val (.int (pre.length : Nat)), .val d, s9, s10, s11, s12]) rfl ht ?_
   rw [e2, ← List.length_append, ih]
   haveI e3 : pre.length + (rows (y :: ys)).length = (pre ++ row y).length + (rows ys).length := by rw [rows_cons]; simp; lia
   rw [e3]
   simp
end
theorem e_varLst {σ : LS} {i : Nat} {xs : List D} (h : lstOf (σ.getD i .non) = some xs) : fv_ i σ = some (.list xs, σ.set i (.val (.list xs))) := by
 unfold fv_
 cases e : σ.getD i .non with
 | val d =>
   rw [e] at h
   cases d <;> first | (cases h; done) | skip
   cases (h)
   dsimp only
   have hi : i < σ.length := by
     rcases Nat.lt_or_ge i σ.length with q | q
     · exact q
     · rw [List.getD, List.getElem?_eq_none q] at e; cases (e)
   rw [List.getD, List.getElem?_eq_getElem hi] at e
   have : σ.set i (.val (.list xs)) = σ := by
     have e : σ[i] = .val (.list xs) := e
     rw [← e, List.set_getElem_self]
   rw [this]
 | ownL io ys => rw [e] at h; cases h; rfl
 | non => rw [e] at h; cases h
 | ownI _ => rw [e] at h; cases h
 | ownT _ => rw [e] at h; cases h
 | ownH _ _ => rw [e] at h; cases h
theorem addL {xs ys : List Int} (h : xs.length + ys.length ≤ 1000) : binD .Add (.list (xs.map D.int)) (.list (ys.map D.int)) = some (.list ((xs ++ ys).map D.int)) := by
 have : (xs.map D.int).length + (ys.map D.int).length ≤ bigN := by simp only [List.length_map]; unfold bigN; omega
 rw [List.map_append]; exact if_pos (e := none) this
section
variable {s0 s1 s2 s3 s4 s5 s7 s8 s11 s12 : Slot}
theorem m_tree {xs : List Tr} : ∀ (s : Tr) (M : List Int) (rest : List D) (s6 s9 s10 : Slot), lstOf s6 = some (xs.map fun y => .list ((row y).map D.int)) → lstOf s9 = some (M.map D.int) → (∀ j ∈ s.leaves, j < xs.length) → xs.length ≤ 900 → M.length + (row (Tr.fill xs s)).length ≤ 1000 →
   ∃ s6' s9' s10', lstOf s6' = some (xs.map fun y => .list ((row y).map D.int)) ∧ lstOf s9' = some ((M ++ row (Tr.fill xs s)).map D.int) ∧
     fFor (gName 10) mB ((symb s).map D.int ++ rest) [s0, s1, s2, s3, s4, s5, s6, s7, s8, s9, s10, s11, s12] = fFor (gName 10) mB rest [s0, s1, s2, s3, s4, s5, s6', s7, s8, s9', s10', s11, s12]
 | .lf j, M, rest, s6, s9, s10, h6, h9, hj, hx, hlen => by
   have hj' := hj j (by simp [Tr.leaves])
   have hf : Tr.fill xs (.lf j) = xs[j] := by simp [Tr.fill, List.getD, hj']
   rw [hf] at hlen ⊢
   have hsub : subD (.list (xs.map fun y => .list ((row y).map D.int))) (.int (256 + (j : Nat) - 256)) = some (.list ((row xs[j]).map D.int)) := by
     haveI e : (256 + ((j : Nat) : Int) - 256) = ((j : Nat) : Int) := by lia
     haveI h1 : (0 : Int) ≤ ((j : Nat) : Int) ∧ ((j : Nat) : Int) < 1000 := by omega
     rw [e]
     refine (if_pos (e := none) h1).trans ?_
     rw [Int.toNat_natCast]
     simp [hj']
   refine Ieeeaa (.val (.list (xs.map fun y => .list ((row y).map D.int)))) (.val (.list ((M ++ row xs[j]).map D.int))) (.val (.int (256 + (j : Nat)))) rfl rfl ?_
   refine e_for (σ1 := [s0, s1, s2, s3, s4, s5, s6, s7, s8, s9, .val (.int (256 + (j : Nat))), s11, s12]) rfl
     (e_seq (e_asg (e_bin (e_varLst h9) (e_ifT (e_tru (e_call (e_cons (e_var rfl) e_lnil) (isn_t (by lia)))) (e_sub (e_varLst h6) (e_bin (e_var rfl) e_lit rfl) hsub)) (addL hlen))) e_nil) rfl
 | .ap l r, M, rest, s6, s9, s10, h6, h9, hj, hx, hlen => by
   simp only [Tr.fill, row, List.length_cons, List.length_append] at hlen
   refine Xeeeaa (m_tree l (M ++ [-1]) ((symb r).map D.int ++ rest) s6 (.val (.list ((M ++ [-1]).map D.int))) (.val (.int 49)) h6 rfl (fun j h => hj j (by simp [Tr.leaves, h])) hx (by simp; omega)) fun a6 a9 a10 i6 i9 e1 => ?_
   refine Xeeeaa (m_tree r (M ++ [-1] ++ row (Tr.fill xs l)) rest a6 a9 a10 i6 i9 (fun j h => hj j (by simp [Tr.leaves, h])) hx (by simp; omega)) fun b6 b9 b10 j6 j9 e2 => ?_
   refine Ieeeaa b6 b9 b10 j6 ?_ ?_
   · rw [j9]; simp [Tr.fill, row]
   · haveI hz : (symb (.ap l r)).map D.int ++ rest = .int 49 :: ((symb l).map D.int ++ ((symb r).map D.int ++ rest)) := by
       show ((49 : Int) :: (symb l ++ symb r)).map D.int ++ rest = _
       simp
     rw [hz]
     have h1 : ([D.int (-1)] : List D).length ≤ bigN := by decide
     refine e_for (σ1 := [s0, s1, s2, s3, s4, s5, s6, s7, s8, s9, .val (.int 49), s11, s12]) rfl
       (e_seq (e_asg (e_bin (e_varLst h9) (e_ifF (e_tru (e_call (e_cons (e_var rfl) e_lnil) (isn_f (by lia)))) (e_lst (e_cons (e_neg e_lit) e_lnil) h1)) (addL (ys := [-1]) (by simp; omega)))) e_nil) ?_
     exact e1.trans e2
end
theorem intsOf_map (ys : List Int) : intsOf (ys.map D.int) = some ys := by
 induction ys with
 | nil => rfl
 | cons y ys ih => simp [intsOf, ih]
theorem max_ge : ∀ (ys : List Int) (y : Int), ∃ M, (y :: ys).max? = some M ∧ (∀ b ∈ y :: ys, b ≤ M) ∧ M ∈ y :: ys := by
 intro ys
 induction ys with
 | nil => intro y; exact Ieaa y rfl (by simp) (by simp)
 | cons z ys ih =>
   intro y
   refine Xeaa (ih (max y z)) fun M h1 h2 h3 => ?_
   have e : (y :: z :: ys).max? = (max y z :: ys).max? := rfl
   refine Ieaa M (by rw [e]; exact h1) (fun b hb => ?_) ?_
   · have hm := h2 (max y z) (by simp)
     rcases List.mem_cons.mp hb with rfl | hb
     · omega
     · rcases List.mem_cons.mp hb with rfl | hb
       · omega
       · exact h2 b (List.mem_cons_of_mem _ hb)
   · rcases List.mem_cons.mp h3 with e3 | h3
     · rcases Int.le_total y z with q | q
       · rw [e3, Int.max_eq_right q]; simp
       · rw [e3, Int.max_eq_left q]; simp
     · exact List.mem_cons_of_mem _ (List.mem_cons_of_mem _ h3)
theorem gMax_neg {n : Nat} (h : 0 < n) : gMax [.list ((List.replicate n (-1)).map D.int)] = some (.int (-1)) := by
 obtain ⟨m, rfl⟩ : ∃ m, n = m + 1 := ⟨n - 1, by omega⟩
 refine Xeaa (max_ge (List.replicate m (-1)) (-1)) fun M h1 h2 h3 => ?_
 have e : M = -1 := by
   have : M ∈ List.replicate (m + 1) (-1 : Int) := h3
   exact (List.mem_replicate.mp this).2
 show ((intsOf ((List.replicate (m + 1) (-1)).map D.int)).bind fun ys => ys.max?.map D.int) = _
 rw [intsOf_map]
 show ((List.replicate (m + 1) (-1 : Int)).max?.map D.int) = _
 rw [List.replicate_succ, h1, e]; rfl
theorem gMax_pos {ys : List Int} {a : Int} (h : a ∈ ys) (h0 : 0 ≤ a) : ∃ M, gMax [.list (ys.map D.int)] = some (.int M) ∧ 0 ≤ M := by
 cases ys with
 | nil => cases h
 | cons y ys =>
   refine Xeaa (max_ge ys y) fun M h1 h2 h3 => ?_
   refine Iea M ?_ (by have := h2 a h; lia)
   show ((intsOf ((y :: ys).map D.int)).bind fun ys => ys.max?.map D.int) = _
   rw [intsOf_map]
   show ((y :: ys).max?.map D.int) = _
   rw [h1]; rfl
section
variable {s1 s2 s4 s6 s7 s8 s9 s10 s11 s12 : Slot} {r : List Int}
theorem cmpGt {a b : Int} : cmpD .Gt (.int a) (.int b) = some (decide (a > b)) := rfl
theorem cmpGe {a b : Int} : cmpD .GtE (.int a) (.int b) = some (decide (a ≥ b)) := rfl
theorem cmpLt {a b : Int} : cmpD .Lt (.int a) (.int b) = some (decide (a < b)) := rfl
theorem oT_zero {s0 s3 : Slot} : oT [s0, s1, s2, s3, s4, .val (.int 0), s6, s7, s8, s9, s10, s11, s12] = some (false, [s0, s1, s2, s3, s4, .val (.int 0), s6, s7, s8, s9, s10, s11, s12]) :=
 e_andF (e_cmp (e_var rfl) e_lit rfl)
theorem oT_few {s0 : Slot} {a n : Nat} (h : 0 < n) (h1 : a < n) : oT [s0, s1, s2, .val (.int a), s4, .val (.int n), s6, s7, s8, s9, s10, s11, s12] = some (false, [s0, s1, s2, .val (.int a), s4, .val (.int n), s6, s7, s8, s9, s10, s11, s12]) :=
 e_andT (e_cmp (e_var rfl) e_lit (cmpGt.trans (by rw [decide_eq_true (by omega)]))) (e_andF (e_cmp (e_var rfl) (e_var rfl) (cmpGe.trans (by rw [decide_eq_false (by lia)]))))
theorem oT_max {a n : Nat} {M : Int} (h : 0 < n) (h1 : n ≤ a) (hb : r.length ≤ 1000) (hm : gMax [.list (sliceL (r.map D.int) (some ((a : Int) - n)) (some (a : Nat)))] = some (.int M)) :
   oT [.val (.list (r.map D.int)), s1, s2, .val (.int a), s4, .val (.int n), s6, s7, s8, s9, s10, s11, s12] = some (decide (M < 0), [.val (.list (r.map D.int)), s1, s2, .val (.int a), s4, .val (.int n), s6, s7, s8, s9, s10, s11, s12]) := by
 have hb' : (r.map D.int).length ≤ bigN := by rw [List.length_map]; unfold bigN; lia
 have key : ∀ b, decide (M < 0) = b → fCmp (cmpD .Lt) (fCall gMax (fC_ (fSlice (fv_ 0) (fPart (fBin .Sub (fv_ 3) (fv_ 5))) (fPart (fv_ 3))) fnl)) (kq (.int 0)) [.val (.list (r.map D.int)), s1, s2, .val (.int a), s4, .val (.int n), s6, s7, s8, s9, s10, s11, s12] = some (b, [.val (.list (r.map D.int)), s1, s2, .val (.int a), s4, .val (.int n), s6, s7, s8, s9, s10, s11, s12]) := fun b hbb =>
   e_cmp (e_call (e_cons (e_slice (e_var rfl) (e_part (e_bin (e_var rfl) (e_var rfl) rfl)) (e_part (e_var rfl)) hb') e_lnil) hm) e_lit (cmpLt.trans (by rw [hbb]))
 refine e_andT (e_cmp (e_var rfl) e_lit (cmpGt.trans (by rw [decide_eq_true (by omega)]))) (e_andT (e_cmp (e_var rfl) (e_var rfl) (cmpGe.trans (by rw [decide_eq_true (by omega)]))) ?_)
 cases hd : decide (M < 0) with
 | true => exact e_andT (key true hd) rfl
 | false => exact e_andF (key false hd)
end
noncomputable def stp (ru : Ru) (t : Tr) (v : Int) : List D := open Classical in if h : 0 ≤ v ∧ ∃ u, Red ru v.toNat t u then [.tup [.int v, .list ((row h.2.choose).map D.int)]] else []
theorem stp_neg {ru : Ru} {t : Tr} : stp ru t (-1) = [] := by unfold stp; rw [dif_neg]; rintro ⟨h, _⟩; exact absurd h dc
theorem stp_none {ru : Ru} {t : Tr} {i : Nat} (h : ∀ u, ¬ Red ru i t u) : stp ru t (i : Nat) = [] := by unfold stp; rw [dif_neg]; rintro ⟨_, u, hu⟩; exact h u (by simpa using hu)
theorem stp_some {ru : Ru} {t u : Tr} {i : Nat} (hn : t.leaves.Nodup) (h : Red ru i t u) : stp ru t (i : Nat) = [.tup [.int i, .list ((row u).map D.int)]] := by
 have hh : (0 : Int) ≤ (i : Nat) ∧ ∃ u, Red ru ((i : Nat) : Int).toNat t u := ⟨by omega, u, by simpa using h⟩
 unfold stp
 rw [dif_pos hh]
 have : Red ru i t hh.2.choose := hh.2.choose_spec
 rw [Red.det hn this h]
theorem row_filter (t : Tr) : (row t).filter (fun v => decide (0 ≤ v)) = t.leaves.map fun i : Nat => (i : Int) := by
 induction t with
 | lf i => simp [row, Tr.leaves]
 | ap l r hl hr => simp [row, Tr.leaves, hl, hr]
theorem cut_eqA {α : Type} {c : α} : ∀ {x x' r r' : List α}, c ∉ x → c ∉ x' → x ++ c :: r = x' ++ c :: r' → x = x' ∧ r = r'
 | [], [], _, _, _, _, h => ⟨rfl, by simpa using h⟩
 | [], a :: x', _, _, _, h2, h => by simp at h; exact absurd h.1 (fun e => h2 (by simp [e]))
 | a :: x, [], _, _, h1, _, h => by simp at h; exact absurd h.1.symm (fun e => h1 (by simp [e]))
 | a :: x, b :: x', r, r', h1, h2, h => by
   simp at h h1 h2
   refine Xa (cut_eqA h1.2 h2.2 h.2) fun e1 e2 => ?_
   exact ⟨by rw [h.1, e1], e2⟩
theorem row_once {t : Tr} {pre suf : List Int} {i : Nat} (hn : t.leaves.Nodup) (e : row t = pre ++ (i : Int) :: suf) : (i : Int) ∉ pre := by
 intro h
 have hf := row_filter t
 rw [e, List.filter_append, List.filter_cons] at hf
 have h0 : decide ((0 : Int) ≤ ((i : Nat) : Int)) = true := by simp
 rw [h0, if_pos rfl] at hf
 have hnd : (t.leaves.map fun i : Nat => (i : Int)).Nodup := by
   unfold List.Nodup
   rw [List.pairwise_map]
   exact List.Pairwise.imp (fun h q => h (by lia)) hn
 rw [← hf, List.nodup_append] at hnd
 exact hnd.2.2 (i : Int) (List.mem_filter.mpr ⟨h, h0⟩) (i : Int) (by simp) rfl
noncomputable def lvD (X : Dr) : D := .list ((List.range 7).map X.leafD)
theorem lv_sub (X : Dr) {i : Nat} (h : i < 7) : subD (lvD X) (.int (i : Nat)) = some (X.leafD i) := by
 have h1 : (0 : Int) ≤ ((i : Nat) : Int) ∧ ((i : Nat) : Int) < 1000 := c_rng (Nat.lt_trans h dc)
 refine (if_pos (e := none) h1).trans ?_
 rw [Int.toNat_natCast]
 simp [h]
theorem leaf1 (X : Dr) (i : Nat) : subD (X.leafD i) (.int 1) = some (.int (X.ru.n i : Nat)) := by
 have h1 : (0 : Int) ≤ 1 ∧ (1 : Int) < 1000 := by decide
 unfold Dr.leafD
 cases e : X.op i <;> (simp only [Dr.ru, e]; exact (if_pos (e := none) h1).trans rfl)
theorem leaf0 (X : Dr) (i : Nat) (h : 0 < X.ru.n i) : subD (X.leafD i) (.int 0) = some (.list ((symb (X.ru.S i)).map D.int)) := by
 haveI h1 : (0 : Int) ≤ 0 ∧ (0 : Int) < 1000 := by decide
 unfold Dr.ru at h
 unfold Dr.leafD
 cases e : X.op i with
 | none => simp only [e] at h; exact absurd h dc
 | some k => simp only [Dr.ru, e]; exact (if_pos (e := none) h1).trans rfl
theorem n_le (X : Dr) (i : Nat) : X.ru.n i ≤ 3 := by
 cases e : X.op i with
 | none => simp only [Dr.ru, e]; decide
 | some k => simp only [Dr.ru, e]; exact ar_le _
theorem slice_at (a b c : List Int) : sliceL ((a ++ (b ++ c)).map D.int) (some (((a.length + b.length : Nat) : Int) - (b.length : Nat))) (some ((a.length + b.length : Nat))) = b.map D.int := by
 have e : (((a.length + b.length : Nat) : Int) - ((b.length : Nat) : Int)) = ((a.length : Nat) : Int) := by omega
 have := slice_mid (a.map D.int) (b.map D.int) (c.map D.int)
 simp only [List.length_map] at this
 rw [e, List.map_append, List.map_append]; exact this
theorem slice_atH (a b : List Int) (n : Nat) : sliceL ((a ++ b).map D.int) none (some (((a.length + n : Nat) : Int) - (n : Nat))) = a.map D.int := by
 have e : (((a.length + n : Nat) : Int) - ((n : Nat) : Int)) = ((a.length : Nat) : Int) := by lia
 haveI := slice_hd (a.map D.int) (b.map D.int)
 simp only [List.length_map] at this
 rw [e, List.map_append]; exact this
theorem slice_atT (a b : List Int) : sliceL ((a ++ b).map D.int) (some ((a.length : Nat))) none = b.map D.int := by
 have := slice_tl (a.map D.int) (b.map D.int)
 simp only [List.length_map] at this
 rw [List.map_append]; exact this
theorem okI3 {n : Nat} (h : n ≤ 3) : okI (n : Int) := by
 match n, h with
 | 0, _ => decide
 | 1, _ => decide
 | 2, _ => decide
 | 3, _ => decide
theorem e_range {σ σ1 : LS} {n : Int} {f : FnD} (h : f σ = some (.int n, σ1)) (ho : okI n) : fRange f σ = some (rangeD n, σ1) := by
 rw [fRange, h]
 show (if okI n then some (rangeD n, σ1) else none) = _
 rw [if_pos ho]
theorem range_e {σ : LS} {n : Nat} (h : n ≤ 3) (hσ : σ.getD 5 .non = .val (.int (n : Nat))) : fRange (fv_ 5) σ = some (rangeD (n : Nat), σ) := e_range (e_var hσ) (okI3 h)
theorem range_len (n : Nat) : (rangeD (n : Nat)).length = n := by simp [rangeD]
noncomputable abbrev fT9 (t : Tr) (X : Dr) (r : LS) : LS := .val (.list ((row t).map D.int)) :: .val (lvD X) :: r
theorem o_leaf {X : Dr} {t : Tr} {pre suf : List Int} {i : Nat} {out : List D} {s5 s6 s7 s8 s9 s10 s11 s12 : Slot} (hn : t.leaves.Nodup) (h7 : ∀ i ∈ t.leaves, i < 7) (hlen : t.leaves.length ≤ 7) (e : row t = pre ++ (i : Int) :: suf) (hout : out.length ≤ 900) :
   ∃ s5' s6' s7' s8' s9' s10' s11' s12', oB (fT9 t X [.ownL false out, .val (.int (pre.length : Nat)), .val (.int (i : Nat)), s5, s6, s7, s8, s9, s10, s11, s12]) =
     some (.next, (fT9 t X [.ownL false (out ++ stp X.ru t (i : Nat)), .val (.int (pre.length : Nat)), .val (.int (i : Nat)), s5', s6', s7', s8', s9', s10', s11', s12'])) := by
 have him : i ∈ t.leaves := by simpa using row_leaf (t := t) (x := (i : Int)) (by rw [e]; simp) (by lia)
 have hi7 := h7 i him
 have hrl := row_length (t := t)
 have hr13 : (row t).length ≤ 13 := mul7 hrl hlen
 have hrb : (row t).length ≤ 1000 := Nat.le_trans hr13 dc
 have hszE : ∀ s5 : Slot, fIf (fCmp (cmpD .GtE) (fv_ 4) (kq (.int 0))) (fSub (fSub (fv_ 1) (fv_ 4)) (kq (.int 1))) (kq (.int 0)) (fT9 t X [.ownL false out, .val (.int (pre.length : Nat)), .val (.int (i : Nat)), s5, s6, s7, s8, s9, s10, s11, s12]) =
     some (.int (X.ru.n i : Nat), (fT9 t X [.ownL false out, .val (.int (pre.length : Nat)), .val (.int (i : Nat)), s5, s6, s7, s8, s9, s10, s11, s12])) := fun s5 =>
   e_ifT (e_cmp (e_var rfl) e_lit (cmpGe.trans (by rw [decide_eq_true (by lia)]))) (e_sub (e_sub (e_var rfl) (e_var rfl) (lv_sub X hi7)) e_lit (leaf1 X i))
 refine Xeeeeaaaa (spine (ru := X.ru) (size t) t (Nat.le_refl _) hn i him) fun m xs A B hm hc hr hA hred => ?_
 rw [row_apps, hm] at hr
 simp only [row] at hr
 have hpre : pre = A ++ List.replicate m (-1) ∧ suf = rows xs ++ B := by
   have e2 : row t = (A ++ List.replicate m (-1)) ++ (i : Int) :: (rows xs ++ B) := by rw [hr]; simp
   exact cut_eqA (row_once hn e) (row_once hn e2) (e.symm.trans e2)
 refine Xa hpre fun q0 q1 => ?_; subst q0; subst q1
 rcases Nat.eq_zero_or_pos (X.ru.n i) with h0 | h0
 · -- no operator
   haveI hs : stp X.ru t (i : Nat) = [] := stp_none fun u hu => by have := hu.pos; omega
   rw [hs, List.append_nil]
   rw [h0] at hszE
   exact Ieeeeeeee _ _ _ _ _ _ _ _ (e_seq (e_asg (hszE _)) (e_seq (e_ifF oT_zero e_nil) e_nil))
 by_cases hnm : X.ru.n i ≤ m
 · -- a step
   obtain ⟨n, hnn⟩ : ∃ n, n = X.ru.n i := ⟨_, rfl⟩
   rw [← hnn] at hszE h0 hnm
   have hxs : xs = xs.take n ++ xs.drop n := (List.take_append_drop n xs).symm
   generalize hys : xs.take n = ys at hxs
   generalize hzs : xs.drop n = zs at hxs
   have hyl : ys.length = n := by rw [← hys, List.length_take]; exact Nat.min_eq_left (hm.symm ▸ hnm)
   have hzl : zs.length = m - n := by rw [← hzs, List.length_drop, hm]
   have hRed : Red X.ru i ((Tr.lf i).apps xs) ((Tr.fill ys (X.ru.S i)).apps zs) := by
     rw [hxs, Tr.apps_append]
     exact Red.apps (.hd (hnn ▸ h0) (hyl.trans hnn)) zs
   refine Xea (hred _ hRed) fun u hu hru => ?_
   rw [stp_some hn hu]
   have hup := hu.leaves.length_eq
   have hulen := row_length (t := u)
   simp only [List.length_cons] at hup
   rw [row_apps, hzl] at hru
   have hrep : List.replicate m (-1 : Int) = List.replicate (m - n) (-1) ++ List.replicate n (-1) := by rw [List.replicate_append_replicate]; congr 1; exact (Nat.sub_add_cancel hnm).symm
   have w1 : row t = (A ++ List.replicate (m - n) (-1)) ++ (List.replicate n (-1) ++ ([(i : Int)] ++ rows xs ++ B)) := by rw [hr, hrep]; simp only [List.append_assoc]
   have w2 : row t = (A ++ List.replicate m (-1) ++ [(i : Int)]) ++ (rows ys ++ (rows zs ++ B)) := by rw [hr, hxs, rows_append]; simp only [List.append_assoc]
   have w3 : row t = (A ++ List.replicate m (-1) ++ [(i : Int)] ++ rows ys) ++ (rows zs ++ B) := by rw [w2]; simp only [List.append_assoc]
   have hat : (A ++ List.replicate m (-1 : Int)).length = (A ++ List.replicate (m - n) (-1 : Int)).length + n := by rw [List.length_append, List.length_append, List.length_replicate, List.length_replicate, Nat.add_assoc, Nat.sub_add_cancel hnm]
   generalize hP : A ++ List.replicate (m - n) (-1 : Int) = Pp at *
   have hatn : (A ++ List.replicate m (-1 : Int)).length = Pp.length + (List.replicate n (-1 : Int)).length := by rw [hat]; simp
   have hsl : sliceL ((row t).map D.int) (some (((Pp.length + n : Nat) : Int) - (n : Nat))) (some ((Pp.length + n : Nat))) = (List.replicate n (-1)).map D.int := by
     haveI := slice_at Pp (List.replicate n (-1)) ([(i : Int)] ++ rows xs ++ B)
     rw [List.length_replicate] at this
     rw [w1]; exact this
   have hT := oT_max (s1 := .val (lvD X)) (s2 := .ownL false out) (s4 := .val (.int (i : Nat))) (s6 := s6) (s7 := s7) (s8 := s8) (s9 := s9) (s10 := s10) (s11 := s11) (s12 := s12) (r := row t) (a := Pp.length + n) (n := n) h0 (Nat.le_add_left _ _) hrb (by rw [hsl]; exact gMax_neg h0)
   rw [show decide ((-1 : Int) < 0) = true from rfl] at hT
   have hn3 : n ≤ 3 := by rw [hnn]; exact n_le X i
   refine Xeee (p_loop (s1 := .val (lvD X)) (s2 := .ownL false out) (s3 := .val (.int (Pp.length + n : Nat))) (s4 := .val (.int (i : Nat))) (s5 := .val (.int (n : Nat))) (s9 := s9) (s10 := s10) ys (rangeD (n : Nat)) (A ++ List.replicate m (-1) ++ [(i : Int)]) (rows zs ++ B) [] s8 s11 s12 (by rw [range_len, hyl]) (by rw [← w2]; exact Nat.lt_of_le_of_lt hr13 dc) (by rw [hyl, List.length_nil, Nat.zero_add]; exact Nat.le_trans hn3 dc)) fun p8 p11 p12 hp => ?_
   rw [← w2, List.nil_append] at hp
   haveI hlin := X.ru.lin i (hnn ▸ h0)
   have hyb : ∀ j ∈ (X.ru.S i).leaves, j < ys.length := fun j hj => by rw [hyl, hnn]; exact List.mem_range.mp (hlin.subset hj)
   obtain ⟨q6, q9, q10, g6, g9, hmid⟩ := m_tree (s0 := .val (.list ((row t).map D.int))) (s1 := .val (lvD X)) (s2 := .ownL false out) (s3 := .val (.int (Pp.length + n : Nat))) (s4 := .val (.int (i : Nat))) (s5 := .val (.int (n : Nat))) (s7 := .val (.int ((A ++ List.replicate m (-1) ++ [(i : Int)]).length + (rows ys).length : Nat))) (s8 := p8) (s11 := p11) (s12 := p12) (xs := ys)
     (X.ru.S i) [] [] (.ownL false (ys.map fun y => .list ((row y).map D.int))) (.ownL false []) s10 rfl rfl hyb (by lia) (by
       have : (row u).length = A.length + ((m - n) + (row (Tr.fill ys (X.ru.S i))).length + (rows zs).length + B.length) := by rw [hru]; simp only [List.length_append, List.length_replicate]
       simp only [List.length_nil]; lia)
   rw [List.append_nil] at hmid
   rw [List.nil_append] at g9
   have hlru : Pp.length + (row (Tr.fill ys (X.ru.S i))).length + (rows zs ++ B).length ≤ 1000 := by
     have : (row u).length = A.length + ((m - n) + (row (Tr.fill ys (X.ru.S i))).length + (rows zs).length + B.length) := by rw [hru]; simp only [List.length_append, List.length_replicate]
     have h2 : Pp.length = A.length + (m - n) := by rw [← hP]; simp
     simp only [List.length_append]; lia
   haveI hnew : row u = Pp ++ row (Tr.fill ys (X.ru.S i)) ++ (rows zs ++ B) := by rw [hru, ← hP]; simp only [List.append_assoc]
   rw [hnew]
   haveI hsH : sliceL ((row t).map D.int) none (some (((Pp.length + n : Nat) : Int) - (n : Nat))) = Pp.map D.int := by rw [w1]; exact slice_atH _ _ _
   haveI hsT : sliceL ((row t).map D.int) (some (((A ++ List.replicate m (-1) ++ [(i : Int)]).length + (rows ys).length : Nat))) none = (rows zs ++ B).map D.int := by
     rw [← List.length_append]; rw [w3]; exact slice_atT _ _
   have hrb' : ((row t).map D.int).length ≤ bigN := by rw [List.length_map]; exact Nat.le_trans hr13 dc
   haveI ho' : out.length ≤ bigN := Nat.le_trans hout dc
   haveI tl : ∀ n, n ≤ 20 → n ≤ bigN := fun n h => Nat.le_trans h dc
   haveI hstop : ((((Pp.length + n : Nat) : Int)) + 1) = ((A ++ List.replicate m (-1) ++ [(i : Int)]).length : Nat) := by rw [List.length_append, hat]; simp
   haveI hrg : ∀ σ : LS, σ.getD 5 .non = .val (.int (n : Nat)) → fRange (fv_ 5) σ = some (rangeD (n : Nat), σ) := fun σ hσ => range_e hn3 hσ
   haveI hitl : ∀ σ : LS, σ.getD 1 .non = .val (lvD X) → σ.getD 4 .non = .val (.int (i : Nat)) → fItL (fun _ => true) (fSub (fSub (fv_ 1) (fv_ 4)) (kq (.int 0))) σ = some ((symb (X.ru.S i)).map D.int, σ) := fun σ h1 h4 => by
     haveI := e_sub (g := fun σ => some (.int 0, σ)) (e_sub (e_var h1) (e_var h4) (lv_sub X hi7)) e_lit (leaf0 X i (hnn ▸ h0))
     simp only [fItL, this, Option.bind_some, if_true]
   rw [hat]
   rw [hat] at hszE
   rw [← hstop] at hp
   haveI ha1 : binD .Add (.list (sliceL ((row t).map D.int) none (some (((Pp.length + n : Nat) : Int) - (n : Nat))))) (.list ((row (Tr.fill ys (X.ru.S i))).map D.int)) = some (.list ((Pp ++ row (Tr.fill ys (X.ru.S i))).map D.int)) := by
     rw [hsH]; exact addL (Nat.le_trans (Nat.le_add_right _ _) hlru)
   haveI ha2 : binD .Add (.list ((Pp ++ row (Tr.fill ys (X.ru.S i))).map D.int)) (.list (sliceL ((row t).map D.int) (some (((A ++ List.replicate m (-1) ++ [(i : Int)]).length + (rows ys).length : Nat))) none)) = some (.list ((Pp ++ row (Tr.fill ys (X.ru.S i)) ++ (rows zs ++ B)).map D.int)) := by
     rw [hsT]; exact addL (by rw [List.length_append]; exact hlru)
   haveI st1 : fNew 6 fnl (fT9 t X [.ownL false out, .val (.int (Pp.length + n : Nat)), .val (.int (i : Nat)), .val (.int (n : Nat)), s6, s7, s8, s9, s10, s11, s12]) = some (.next, (fT9 t X [.ownL false out, .val (.int (Pp.length + n : Nat)), .val (.int (i : Nat)), .val (.int (n : Nat)), .ownL false [], s7, s8, s9, s10, s11, s12])) := (e_new e_lnil (tl _ dc)).trans rfl
   haveI st2 : fAsg 7 (fBin .Add (fv_ 3) (kq (.int 1))) (fT9 t X [.ownL false out, .val (.int (Pp.length + n : Nat)), .val (.int (i : Nat)), .val (.int (n : Nat)), .ownL false [], s7, s8, s9, s10, s11, s12]) = some (.next, (fT9 t X [.ownL false out, .val (.int (Pp.length + n : Nat)), .val (.int (i : Nat)), .val (.int (n : Nat)), .ownL false [], .val (.int (((Pp.length + n : Nat) : Int) + 1)), s8, s9, s10, s11, s12])) := (e_asg (e_bin (e_var rfl) e_lit rfl)).trans rfl
   haveI st3 : fForS (fRange (fv_ 5)) (gName 8) pB (fT9 t X [.ownL false out, .val (.int (Pp.length + n : Nat)), .val (.int (i : Nat)), .val (.int (n : Nat)), .ownL false [], .val (.int (((Pp.length + n : Nat) : Int) + 1)), s8, s9, s10, s11, s12]) = some (.next, (fT9 t X [.ownL false out, .val (.int (Pp.length + n : Nat)), .val (.int (i : Nat)), .val (.int (n : Nat)), .ownL false (ys.map fun y => .list ((row y).map D.int)), .val (.int ((A ++ List.replicate m (-1) ++ [(i : Int)]).length + (rows ys).length : Nat)), p8, s9, s10, p11, p12])) := e_fors (hrg _ rfl) hp
   haveI st4 : fNew 9 fnl (fT9 t X [.ownL false out, .val (.int (Pp.length + n : Nat)), .val (.int (i : Nat)), .val (.int (n : Nat)), .ownL false (ys.map fun y => .list ((row y).map D.int)), .val (.int ((A ++ List.replicate m (-1) ++ [(i : Int)]).length + (rows ys).length : Nat)), p8, s9, s10, p11, p12]) = some (.next, (fT9 t X [.ownL false out, .val (.int (Pp.length + n : Nat)), .val (.int (i : Nat)), .val (.int (n : Nat)), .ownL false (ys.map fun y => .list ((row y).map D.int)), .val (.int ((A ++ List.replicate m (-1) ++ [(i : Int)]).length + (rows ys).length : Nat)), p8, .ownL false [], s10, p11, p12])) := (e_new e_lnil (tl _ dc)).trans rfl
   haveI st5 : fForS (fItL (fun _ => true) (fSub (fSub (fv_ 1) (fv_ 4)) (kq (.int 0)))) (gName 10) mB (fT9 t X [.ownL false out, .val (.int (Pp.length + n : Nat)), .val (.int (i : Nat)), .val (.int (n : Nat)), .ownL false (ys.map fun y => .list ((row y).map D.int)), .val (.int ((A ++ List.replicate m (-1) ++ [(i : Int)]).length + (rows ys).length : Nat)), p8, .ownL false [], s10, p11, p12]) = some (.next, (fT9 t X [.ownL false out, .val (.int (Pp.length + n : Nat)), .val (.int (i : Nat)), .val (.int (n : Nat)), q6, .val (.int ((A ++ List.replicate m (-1) ++ [(i : Int)]).length + (rows ys).length : Nat)), p8, q9, q10, p11, p12])) := e_fors (hitl _ rfl rfl) (hmid.trans rfl)
   haveI v1 : fSlice (fv_ 0) fNoPart (fPart (fBin .Sub (fv_ 3) (fv_ 5))) (fT9 t X [.ownL false out, .val (.int (Pp.length + n : Nat)), .val (.int (i : Nat)), .val (.int (n : Nat)), q6, .val (.int ((A ++ List.replicate m (-1) ++ [(i : Int)]).length + (rows ys).length : Nat)), p8, q9, q10, p11, p12]) = some (.list (sliceL ((row t).map D.int) none (some (((Pp.length + n : Nat) : Int) - (n : Nat)))), (fT9 t X [.ownL false out, .val (.int (Pp.length + n : Nat)), .val (.int (i : Nat)), .val (.int (n : Nat)), q6, .val (.int ((A ++ List.replicate m (-1) ++ [(i : Int)]).length + (rows ys).length : Nat)), p8, q9, q10, p11, p12])) := e_slice (e_var rfl) e_nopart (e_part (e_bin (e_var rfl) (e_var rfl) rfl)) hrb'
   haveI v2 : fv_ 9 (fT9 t X [.ownL false out, .val (.int (Pp.length + n : Nat)), .val (.int (i : Nat)), .val (.int (n : Nat)), q6, .val (.int ((A ++ List.replicate m (-1) ++ [(i : Int)]).length + (rows ys).length : Nat)), p8, q9, q10, p11, p12]) = some (.list ((row (Tr.fill ys (X.ru.S i))).map D.int), (fT9 t X [.ownL false out, .val (.int (Pp.length + n : Nat)), .val (.int (i : Nat)), .val (.int (n : Nat)), q6, .val (.int ((A ++ List.replicate m (-1) ++ [(i : Int)]).length + (rows ys).length : Nat)), p8, .val (.list ((row (Tr.fill ys (X.ru.S i))).map D.int)), q10, p11, p12])) := (e_varLst (σ := (fT9 t X [.ownL false out, .val (.int (Pp.length + n : Nat)), .val (.int (i : Nat)), .val (.int (n : Nat)), q6, .val (.int ((A ++ List.replicate m (-1) ++ [(i : Int)]).length + (rows ys).length : Nat)), p8, q9, q10, p11, p12])) (i := 9) g9).trans rfl
   haveI v3 : fSlice (fv_ 0) (fPart (fv_ 7)) fNoPart (fT9 t X [.ownL false out, .val (.int (Pp.length + n : Nat)), .val (.int (i : Nat)), .val (.int (n : Nat)), q6, .val (.int ((A ++ List.replicate m (-1) ++ [(i : Int)]).length + (rows ys).length : Nat)), p8, .val (.list ((row (Tr.fill ys (X.ru.S i))).map D.int)), q10, p11, p12]) = some (.list (sliceL ((row t).map D.int) (some (((A ++ List.replicate m (-1) ++ [(i : Int)]).length + (rows ys).length : Nat))) none), (fT9 t X [.ownL false out, .val (.int (Pp.length + n : Nat)), .val (.int (i : Nat)), .val (.int (n : Nat)), q6, .val (.int ((A ++ List.replicate m (-1) ++ [(i : Int)]).length + (rows ys).length : Nat)), p8, .val (.list ((row (Tr.fill ys (X.ru.S i))).map D.int)), q10, p11, p12])) := e_slice (e_var rfl) (e_part (e_var rfl)) e_nopart hrb'
   haveI v4 : fTup (fC_ (fv_ 4) (fC_ (fBin .Add (fBin .Add (fSlice (fv_ 0) fNoPart (fPart (fBin .Sub (fv_ 3) (fv_ 5)))) (fv_ 9)) (fSlice (fv_ 0) (fPart (fv_ 7)) fNoPart)) fnl)) (fT9 t X [.ownL false out, .val (.int (Pp.length + n : Nat)), .val (.int (i : Nat)), .val (.int (n : Nat)), q6, .val (.int ((A ++ List.replicate m (-1) ++ [(i : Int)]).length + (rows ys).length : Nat)), p8, q9, q10, p11, p12]) = some (.tup [.int (i : Nat), .list ((Pp ++ row (Tr.fill ys (X.ru.S i)) ++ (rows zs ++ B)).map D.int)], (fT9 t X [.ownL false out, .val (.int (Pp.length + n : Nat)), .val (.int (i : Nat)), .val (.int (n : Nat)), q6, .val (.int ((A ++ List.replicate m (-1) ++ [(i : Int)]).length + (rows ys).length : Nat)), p8, .val (.list ((row (Tr.fill ys (X.ru.S i))).map D.int)), q10, p11, p12])) := e_tup (e_cons (e_var rfl) (e_cons (e_bin (e_bin v1 v2 ha1) v3 ha2) e_lnil)) (tl 2 dc)
   haveI st6 : oA (fT9 t X [.ownL false out, .val (.int (Pp.length + n : Nat)), .val (.int (i : Nat)), .val (.int (n : Nat)), q6, .val (.int ((A ++ List.replicate m (-1) ++ [(i : Int)]).length + (rows ys).length : Nat)), p8, q9, q10, p11, p12]) = some (.next, (fT9 t X [.ownL false (out ++ [.tup [.int (i : Nat), .list ((Pp ++ row (Tr.fill ys (X.ru.S i)) ++ (rows zs ++ B)).map D.int)]]), .val (.int (Pp.length + n : Nat)), .val (.int (i : Nat)), .val (.int (n : Nat)), q6, .val (.int ((A ++ List.replicate m (-1) ++ [(i : Int)]).length + (rows ys).length : Nat)), p8, .val (.list ((row (Tr.fill ys (X.ru.S i))).map D.int)), q10, p11, p12])) := (e_app ⟨_, _, rfl⟩ v4 rfl ho').trans rfl
   haveI stI : oI (fT9 t X [.ownL false out, .val (.int (Pp.length + n : Nat)), .val (.int (i : Nat)), .val (.int (n : Nat)), s6, s7, s8, s9, s10, s11, s12]) = some (.next, (fT9 t X [.ownL false (out ++ [.tup [.int (i : Nat), .list ((Pp ++ row (Tr.fill ys (X.ru.S i)) ++ (rows zs ++ B)).map D.int)]]), .val (.int (Pp.length + n : Nat)), .val (.int (i : Nat)), .val (.int (n : Nat)), q6, .val (.int ((A ++ List.replicate m (-1) ++ [(i : Int)]).length + (rows ys).length : Nat)), p8, .val (.list ((row (Tr.fill ys (X.ru.S i))).map D.int)), q10, p11, p12])) := e_seq st1 (e_seq st2 (e_seq st3 (e_seq st4 (e_seq st5 (e_seq st6 e_nil)))))
   haveI st0 : fAsg 5 (fIf (fCmp (cmpD .GtE) (fv_ 4) (kq (.int 0))) (fSub (fSub (fv_ 1) (fv_ 4)) (kq (.int 1))) (kq (.int 0))) (fT9 t X [.ownL false out, .val (.int (Pp.length + n : Nat)), .val (.int (i : Nat)), s5, s6, s7, s8, s9, s10, s11, s12]) = some (.next, (fT9 t X [.ownL false out, .val (.int (Pp.length + n : Nat)), .val (.int (i : Nat)), .val (.int (n : Nat)), s6, s7, s8, s9, s10, s11, s12])) := (e_asg (hszE s5)).trans rfl
   exact Ieeeeeeee _ _ _ _ _ _ _ _ (e_seq st0 (e_seq (e_ifT hT stI) e_nil))
 · -- too few terms
   haveI hs : stp X.ru t (i : Nat) = [] := stp_none fun u hu => by
     refine Xea (hu.cnt hn 0) fun m' h1 h2 => ?_
     rw [hc] at h1
     cases h1
     exact hnm h2
   rw [hs, List.append_nil]
   by_cases hfew : (A ++ List.replicate m (-1 : Int)).length < X.ru.n i
   · exact Ieeeeeeee _ _ _ _ _ _ _ _ (e_seq (e_asg (hszE _)) (e_seq (e_ifF (oT_few h0 hfew) e_nil) e_nil))
   · rcases hA with rfl | ⟨A', a, rfl, ha⟩
     · simp at hfew; omega
     obtain ⟨n, hnn⟩ : ∃ n, n = X.ru.n i := ⟨_, rfl⟩
     rw [← hnn] at hszE h0 hfew hnm
     have hcut : ∃ P1 P2, A' ++ [a] ++ List.replicate m (-1 : Int) = P1 ++ P2 ∧ P2.length = n ∧ a ∈ P2 := by
       refine Ieeaa ((A' ++ [a] ++ List.replicate m (-1 : Int)).take (A'.length + 1 + m - n)) ((A' ++ [a] ++ List.replicate m (-1 : Int)).drop (A'.length + 1 + m - n)) ((List.take_append_drop _ _).symm) ?_ ?_
       · simp at hfew ⊢; omega
       · have hle : A'.length + 1 + m - n ≤ A'.length := by omega
         rw [List.append_assoc, List.drop_append_of_le_length hle]
         simp
     refine Xeeaa hcut fun P1 P2 hPP hP2 haP => ?_
     have hsl : sliceL ((row t).map D.int) (some (((P1.length + n : Nat) : Int) - (n : Nat))) (some ((P1.length + n : Nat))) = P2.map D.int := by
       haveI := slice_at P1 P2 ((i : Int) :: (rows xs ++ B))
       rw [hP2] at this
       rw [e, hPP, List.append_assoc]; exact this
     refine Xea (gMax_pos haP ha) fun M hM hM0 => ?_
     have hplen : (A' ++ [a] ++ List.replicate m (-1 : Int)).length = P1.length + n := by rw [hPP, List.length_append, hP2]
     haveI hT := oT_max (s1 := .val (lvD X)) (s2 := .ownL false out) (s4 := .val (.int (i : Nat))) (s6 := s6) (s7 := s7) (s8 := s8) (s9 := s9) (s10 := s10) (s11 := s11) (s12 := s12) (r := row t) (a := P1.length + n) (n := n) h0 (Nat.le_add_left _ _) hrb (by rw [hsl]; exact hM)
     rw [decide_eq_false (by lia)] at hT
     rw [hplen]
     rw [hplen] at hszE
     exact Ieeeeeeee _ _ _ _ _ _ _ _ (e_seq (e_asg (hszE _)) (e_seq (e_ifF hT e_nil) e_nil))
theorem stp_len {ru : Ru} {t : Tr} {v : Int} : (stp ru t v).length ≤ 1 := by unfold stp; split <;> simp
theorem o_neg {X : Dr} {R : Slot} {a : D} {out : List D} {s5 s6 s7 s8 s9 s10 s11 s12 : Slot} : oB [R, .val (lvD X), .ownL false out, .val a, .val (.int (-1)), s5, s6, s7, s8, s9, s10, s11, s12] =
   some (.next, [R, .val (lvD X), .ownL false out, .val a, .val (.int (-1)), .val (.int 0), s6, s7, s8, s9, s10, s11, s12]) :=
 e_seq (e_asg (e_ifF (e_cmp (e_var rfl) e_lit rfl) e_lit)) (e_seq (e_ifF oT_zero e_nil) e_nil)
noncomputable def enumD (xs : List D) (k : Nat) : List D := (xs.zipIdx k).map fun x => D.tup [.int (x.2 : Nat), x.1]
theorem enumD_cons (x : D) (xs : List D) (k : Nat) : enumD (x :: xs) k = .tup [.int (k : Nat), x] :: enumD xs (k + 1) := rfl
theorem st_loop {X : Dr} {t : Tr} (hn : t.leaves.Nodup) (h7 : ∀ i ∈ t.leaves, i < 7) (hlen : t.leaves.length ≤ 7) : ∀ (suf pre : List Int) (out : List D) (s3 s4 s5 s6 s7 s8 s9 s10 s11 s12 : Slot), row t = pre ++ suf → out.length + suf.length ≤ 900 →
   ∃ s3' s4' s5' s6' s7' s8' s9' s10' s11' s12', fFor (gTup [3, 4]) oB (enumD (suf.map D.int) pre.length) (fT9 t X [.ownL false out, s3, s4, s5, s6, s7, s8, s9, s10, s11, s12]) =
     some (.next, (fT9 t X [.ownL false (out ++ suf.flatMap (stp X.ru t)), s3', s4', s5', s6', s7', s8', s9', s10', s11', s12']))
 | [], pre, out, s3, s4, s5, s6, s7, s8, s9, s10, s11, s12, _, _ => ⟨s3, s4, s5, s6, s7, s8, s9, s10, s11, s12, by simp [enumD, fFor]⟩
 | v :: suf, pre, out, s3, s4, s5, s6, s7, s8, s9, s10, s11, s12, e, ho => by
   simp only [List.length_cons] at ho
   have hsl := stp_len (ru := X.ru) (t := t) (v := v)
   have e' : row t = (pre ++ [v]) ++ suf := by rw [e]; simp
   have hpl : (pre ++ [v]).length = pre.length + 1 := by simp
   have turn : ∃ s5' s6' s7' s8' s9' s10' s11' s12', oB (fT9 t X [.ownL false out, .val (.int (pre.length : Nat)), .val (.int v), s5, s6, s7, s8, s9, s10, s11, s12]) =
       some (.next, (fT9 t X [.ownL false (out ++ stp X.ru t v), .val (.int (pre.length : Nat)), .val (.int v), s5', s6', s7', s8', s9', s10', s11', s12'])) := by
     by_cases hv : v = -1
     · subst hv
       rw [stp_neg, List.append_nil]
       exact Ieeeeeeee _ _ _ _ _ _ _ _ o_neg
     · refine Xea (row_mem (t := t) (x := v) (by rw [e]; simp) hv) fun i q1 _ => ?_; subst q1
       exact o_leaf hn h7 hlen e (by omega)
   refine Xeeeeeeee turn fun a5 a6 a7 a8 a9 a10 a11 a12 h1 => ?_
   obtain ⟨b3, b4, b5, b6, b7, b8, b9, b10, b11, b12, h2⟩ := st_loop hn h7 hlen suf (pre ++ [v]) (out ++ stp X.ru t v) (.val (.int (pre.length : Nat))) (.val (.int v)) a5 a6 a7 a8 a9 a10 a11 a12 e' (by rw [List.length_append]; omega)
   refine Ieeeeeeeeee b3 b4 b5 b6 b7 b8 b9 b10 b11 b12 ?_
   rw [List.map_cons, enumD_cons]
   refine e_for (σ1 := (fT9 t X [.ownL false out, .val (.int (pre.length : Nat)), .val (.int v), s5, s6, s7, s8, s9, s10, s11, s12])) rfl h1 ?_
   rw [hpl] at h2
   rw [h2, List.flatMap_cons, List.append_assoc]
theorem steps_eq {X : Dr} {t : Tr} (hn : t.leaves.Nodup) (h7 : ∀ i ∈ t.leaves, i < 7) (hlen : t.leaves.length ≤ 7) : g_law_steps [.list ((row t).map D.int), lvD X] = some (.list ((row t).flatMap (stp X.ru t))) := by
 haveI hrl := row_length (t := t)
 refine Xeeeeeeeeee (st_loop (X := X) hn h7 hlen (row t) [] [] .non .non .non .non .non .non .non .non .non .non rfl (by simp; lia)) fun b3 b4 b5 b6 b7 b8 b9 b10 b11 b12 h => ?_
 haveI main : ∃ σ1, f_law_steps g_ISNONTERMINAL (fT9 t X [.non, .non, .non, .non, .non, .non, .non, .non, .non, .non, .non]) = some (.ret (.list ((row t).flatMap (stp X.ru t))), σ1) := by
   rw [steps_form]
   haveI he : fEnum (fv_ 0) (fT9 t X [.ownL false [], .non, .non, .non, .non, .non, .non, .non, .non, .non, .non]) = some (enumD ((row t).map D.int) 0, (fT9 t X [.ownL false [], .non, .non, .non, .non, .non, .non, .non, .non, .non, .non])) := rfl
   exact ⟨_, e_seq (e_new e_lnil dc) (e_seq (e_fors he h) (e_seqR (e_ret (e_varL rfl))))⟩
 refine Xe main fun σ1 h => ?_
 exact e_run rfl rfl h
noncomputable def stn (v : Int) : Str := (toString v : String)
theorem stn_all : ((List.range 129).all fun n => (PySem.intText? (stn ((n : Int) - 1)) == some ((n : Int) - 1)) && (Txt.lower (stn ((n : Int) - 1)) == stn ((n : Int) - 1)) && okText (stn ((n : Int) - 1)) && decide ((stn ((n : Int) - 1)).length ≤ 3) && decide (32 ∉ (stn ((n : Int) - 1)).cps.toList)) = true := by decide +kernel
theorem stn_ok {v : Int} (h1 : -1 ≤ v) (h2 : v < 128) : PySem.intText? (stn v) = some v ∧ Txt.lower (stn v) = stn v ∧ okText (stn v) = true ∧ (stn v).length ≤ 3 ∧ 32 ∉ (stn v).cps.toList := by
 haveI h := List.all_eq_true.mp stn_all (v + 1).toNat (List.mem_range.mpr (by omega))
 haveI e : (((v + 1).toNat : Int) - 1) = v := by lia
 rw [e] at h
 simp only [Bool.and_eq_true, decide_eq_true_eq, beq_iff_eq] at h
 exact ⟨h.1.1.1.1, h.1.1.1.2, h.1.1.2, h.1.2, h.2⟩
theorem stn_inj {v u : Int} (h1 : -1 ≤ v) (h2 : v < 128) (h3 : -1 ≤ u) (h4 : u < 128) (h : stn v = stn u) : v = u := by
 have a := (stn_ok h1 h2).1
 rw [h, (stn_ok h3 h4).1] at a
 exact (Option.some.inj a).symm
theorem gStr_e {v : Int} (h1 : -1 ≤ v) (h2 : v < 128) : gStr [.int v] = some (.str (stn v)) := by
 haveI : okI v := ⟨by omega, by omega⟩
 show (if okI v then some (D.str (toString v : String)) else none) = _
 rw [if_pos this]; rfl
theorem gInt_e {v : Int} (h1 : -1 ≤ v) (h2 : v < 128) : gInt [.str (stn v)] = some (.int v) := by
 refine Xaaaa (stn_ok h1 h2) fun a _ _ b _ => ?_
 show (if (stn v).length ≤ 640 then (PySem.intText? (stn v)).map D.int else none) = _
 rw [if_pos (by lia), a]; rfl
noncomputable def rtx (r : List Int) : Str := Str.join " " (r.map stn)
theorem strsOf_map (xs : List Str) : strsOf (xs.map D.str) = some xs := by
 induction xs with
 | nil => rfl
 | cons x xs ih => simp [strsOf, ih]
theorem sum_le3 {xs : List Str} (h : ∀ x ∈ xs, x.length ≤ 3) : (xs.map (·.length)).sum ≤ 3 * xs.length := by
 induction xs with
 | nil => simp
 | cons x xs ih =>
   haveI := h x (by simp)
   haveI := ih fun y hy => h y (List.mem_cons_of_mem _ hy)
   simp only [List.map_cons, List.sum_cons, List.length_cons]; lia
theorem gJoin_e {r : List Int} (h : ∀ v ∈ r, -1 ≤ v ∧ v < 128) (hl : r.length ≤ 1000) : gJoin (.str " ") [.list ((r.map stn).map D.str)] = some (.str (rtx r)) := by
 have h3 := sum_le3 (xs := r.map stn) (by intro x hx; refine Xea (List.mem_map.mp hx) fun v hv q2 => ?_; subst q2; exact (stn_ok (h v hv).1 (h v hv).2).2.2.2.1)
 have e1 : (" " : Str).length = 1 := by decide +kernel
 have hb : ((r.map stn).map (·.length)).sum + (r.map stn).length * (" " : Str).length ≤ 1000000 := by rw [e1, List.length_map] at *; lia
 show ((strsOf ((r.map stn).map D.str)).bind fun zs => if (zs.map (·.length)).sum + zs.length * (" " : Str).length ≤ 1000000 then some (D.str (Txt.join " " zs)) else none) = _
 rw [strsOf_map]
 show (if ((r.map stn).map (·.length)).sum + (r.map stn).length * (" " : Str).length ≤ 1000000 then some (D.str (Txt.join " " (r.map stn))) else none) = _
 rw [if_pos hb]
 unfold Txt.join rtx
 rw [StrLaws.glued_eq_join]
theorem rtx_len {r : List Int} (h : ∀ v ∈ r, -1 ≤ v ∧ v < 128) : (rtx r).length ≤ 4 * r.length := by
 haveI h3 := sum_le3 (xs := r.map stn) (by intro x hx; refine Xea (List.mem_map.mp hx) fun v hv q2 => ?_; subst q2; exact (stn_ok (h v hv).1 (h v hv).2).2.2.2.1)
 have e1 : (" " : Str).length = 1 := by decide +kernel
 have := StrLaws.join_length_le " " (r.map stn)
 unfold rtx
 rw [e1] at this
 rw [List.length_map] at *
 lia
theorem rtx_ok {r : List Int} (h : ∀ v ∈ r, -1 ≤ v ∧ v < 128) : okText (rtx r) = true := by
 have e1 : okText (" " : Str) = true := by decide +kernel
 haveI app : ∀ x y : Str, okText x = true → okText y = true → okText (x ++ y) = true := fun x y hx hy => by
   unfold okText at hx hy ⊢
   show (x.cps ++ y.cps).all _ = true
   rw [Array.all_append, hx, hy]; rfl
 unfold rtx
 induction r with
 | nil => decide +kernel
 | cons v r ih =>
   have hv := (stn_ok (h v (by simp)).1 (h v (by simp)).2).2.2.1
   cases r with
   | nil => exact hv
   | cons u r =>
     haveI := ih fun w hw => h w (List.mem_cons_of_mem _ hw)
     rw [List.map_cons, List.map_cons, join_cons2]
     exact app _ _ (app _ _ hv e1) this
theorem rtx_split {r : List Int} (h0 : r ≠ []) (h : ∀ v ∈ r, -1 ≤ v ∧ v < 128) (hl : r.length ≤ 1000) : gSplit (.str (rtx r)) [.str " "] = some (.list ((r.map stn).map D.str)) := by
 haveI hb : (" " : Str).length ≠ 0 ∧ (rtx r).length ≤ bigN := ⟨by decide +kernel, by have := rtx_len h; unfold bigN; lia⟩
 haveI hs : Txt.split (rtx r) " " = r.map stn := by
   unfold rtx
   rw [sp_eq]
   refine split_join (by simpa using h0) ?_
   intro x hx
   refine Xea (List.mem_map.mp hx) fun v hv q2 => ?_; subst q2
   exact (stn_ok (h v hv).1 (h v hv).2).2.2.2.2
 show (if (" " : Str).length ≠ 0 ∧ (rtx r).length ≤ bigN then some (D.list ((Txt.split (rtx r) " ").map D.str)) else none) = _
 rw [if_pos hb, hs]
theorem cc_loop : ∀ (es : LT) (a : Int) (s0 s2 : Slot), ∃ s2', fFor (gName 2) (fSeq (fAug 1 .Add (fv_ 2)) fBNil) (es.map fun p => D.int p.2) [s0, .val (.int a), s2] = some (.next, [s0, .val (.int (a + (es.map (·.2)).sum)), s2'])
 | [], a, s0, s2 => ⟨s2, by simp [fFor]⟩
 | p :: es, a, s0, s2 => by
   refine Xe (cc_loop es (a + p.2) s0 (.val (.int p.2))) fun s2' h => ?_
   refine ⟨s2', ?_⟩
   rw [List.map_cons]
   refine e_for (σ1 := [s0, .val (.int a), .val (.int p.2)]) (σ2 := [s0, .val (.int (a + p.2)), .val (.int p.2)]) rfl (e_seq ((e_aug rfl (e_var rfl) rfl).trans rfl) e_nil) ?_
   rw [h, List.map_cons, List.sum_cons, Int.add_assoc]
theorem cc_eq (es : LT) : g_count_calls [.dT es] = some (.int (es.map (·.2)).sum) := by
 refine Xe (cc_loop es 0 (.val (.dT es)) .non) fun s2' h => ?_
 rw [Int.zero_add] at h
 have hv : fValues (fv_ 0) [.val (.dT es), .val (.int 0), .non] = some (es.map fun p => D.int p.2, [.val (.dT es), .val (.int 0), .non]) := rfl
 have main : ∃ σ1, f_count_calls [.val (.dT es), .non, .non] = some (.ret (.int (es.map (·.2)).sum), σ1) :=
   ⟨_, e_seq (e_asg e_lit) (e_seq (e_fors hv h) (e_seqR (e_ret (e_var rfl))))⟩
 refine Xe main fun σ1 h => ?_
 exact e_run rfl rfl h
theorem ksOf_map (ks : List KS) : ksOf (ks.map KS.toD) = some ks := by
 induction ks with
 | nil => rfl
 | cons k ks ih =>
   have e : ksE k.toD = some k := by cases k <;> rfl
   show (ksE k.toD).bind _ = _
   rw [e]
   show (ksOf (ks.map KS.toD)).map _ = _
   rw [ih]; rfl
theorem keyD_tup (ks : List KS) : keyD (.tup (ks.map KS.toD)) = some ks := ksOf_map ks
theorem atT_none {es : LT} {k : List KS} (h : k ∉ es.map (·.1)) : atT es k = none := by
 unfold atT
 rw [List.find?_eq_none.mpr]
 · rfl
 · intro p hp q
   simp only [decide_eq_true_eq] at q
   exact h (List.mem_map.mpr ⟨p, hp, q⟩)
theorem e_setT {σ σ1 σ2 : LS} {i : Nat} {a : D} {n : Int} {fe fk : FnD} {ks : List KS} {es es0 : LT} (h1 : fe σ = some (.int n, σ1)) (h0 : ownTAt i σ1 = some es0) (h2 : fk σ1 = some (a, σ2)) (h3 : keyD a = some ks) (h4 : ownTAt i σ2 = some es) (h5 : ks ∉ es.map (·.1)) (h6 : es.length ≤ bigN) : fSetT i fe fk σ = some (.next, σ2.set i (.ownT (es ++ [(ks, n)]))) := by
 simp only [fSetT, h1, Option.bind_some, intD, h0, h2, h3, h4, if_pos (show atT es ks = none ∧ es.length ≤ bigN from ⟨atT_none h5, h6⟩)]
theorem ac_loop1 : ∀ (es acc : LT) (s0 s1 s3 s4 : Slot), ((acc ++ es).map (·.1)).Nodup → (acc ++ es).length ≤ 1000 →
   ∃ s3' s4', fFor (gTup [3, 4]) (fSeq (fSetT 2 (fv_ 4) (fv_ 3)) fBNil) (es.map pairD) [s0, s1, .ownT acc, s3, s4] = some (.next, [s0, s1, .ownT (acc ++ es), s3', s4'])
 | [], acc, s0, s1, s3, s4, _, _ => ⟨s3, s4, by simp [fFor]⟩
 | (ks, n) :: es, acc, s0, s1, s3, s4, hn, hl => by
   have e1 : acc ++ (ks, n) :: es = (acc ++ [(ks, n)]) ++ es := by simp
   refine Xee (ac_loop1 es (acc ++ [(ks, n)]) s0 s1 (.val (.tup (ks.map KS.toD))) (.val (.int n)) (by rw [← e1]; exact hn) (by rw [← e1]; exact hl)) fun s3' s4' h => ?_
   refine Iee s3' s4' ?_
   have hnin : ks ∉ acc.map (·.1) := by
     rw [List.map_append, List.nodup_append] at hn
     exact fun q => hn.2.2 ks q ks (by simp) rfl
   rw [List.map_cons, e1]
   refine e_for (σ1 := [s0, s1, .ownT acc, .val (.tup (ks.map KS.toD)), .val (.int n)]) (σ2 := [s0, s1, .ownT (acc ++ [(ks, n)]), .val (.tup (ks.map KS.toD)), .val (.int n)]) rfl (e_seq ((e_setT (e_var rfl) rfl (e_var rfl) (keyD_tup ks) rfl hnin (by simp at hl; unfold bigN; lia)).trans rfl) e_nil) h
theorem ac_loop2 : ∀ (es acc : LT) (s0 s1 s3 s4 : Slot), ((acc ++ es).map (·.1)).Nodup → (acc ++ es).length ≤ 1000 →
   ∃ s3' s4', fFor (gTup [3, 4]) (fSeq (fIf (fInT 2 (fv_ 3)) (fSeq (fIf (fTru (fCall gIsTup (fC_ (fv_ 4) (fC_ (kq (.typ "tuple")) fnl)))) (fSeq (fun _ => none) fBNil) (fSeq (fun _ => none) fBNil)) fBNil) (fSeq (fSetT 2 (fv_ 4) (fv_ 3)) fBNil)) fBNil) (es.map pairD) [s0, s1, .ownT acc, s3, s4] = some (.next, [s0, s1, .ownT (acc ++ es), s3', s4'])
 | [], acc, s0, s1, s3, s4, _, _ => ⟨s3, s4, by simp [fFor]⟩
 | (ks, n) :: es, acc, s0, s1, s3, s4, hn, hl => by
   have e1 : acc ++ (ks, n) :: es = (acc ++ [(ks, n)]) ++ es := by simp
   refine Xee (ac_loop2 es (acc ++ [(ks, n)]) s0 s1 (.val (.tup (ks.map KS.toD))) (.val (.int n)) (by rw [← e1]; exact hn) (by rw [← e1]; exact hl)) fun s3' s4' h => ?_
   refine Iee s3' s4' ?_
   have hnin : ks ∉ acc.map (·.1) := by
     rw [List.map_append, List.nodup_append] at hn
     exact fun q => hn.2.2 ks q ks (by simp) rfl
   have ht : fInT 2 (fv_ 3) [s0, s1, .ownT acc, .val (.tup (ks.map KS.toD)), .val (.int n)] = some (false, [s0, s1, .ownT acc, .val (.tup (ks.map KS.toD)), .val (.int n)]) := by
     have v3 : fv_ 3 [s0, s1, .ownT acc, .val (.tup (ks.map KS.toD)), .val (.int n)] = some (.tup (ks.map KS.toD), [s0, s1, .ownT acc, .val (.tup (ks.map KS.toD)), .val (.int n)]) := rfl
     have o2 : ownTAt 2 [s0, s1, .ownT acc, .val (.tup (ks.map KS.toD)), .val (.int n)] = some acc := rfl
     simp only [fInT, v3, Option.bind_some, keyD_tup, o2, atT_none hnin]; rfl
   rw [List.map_cons, e1]
   refine e_for (σ1 := [s0, s1, .ownT acc, .val (.tup (ks.map KS.toD)), .val (.int n)]) (σ2 := [s0, s1, .ownT (acc ++ [(ks, n)]), .val (.tup (ks.map KS.toD)), .val (.int n)]) rfl (e_seq (e_ifF ht (e_seq ((e_setT (e_var rfl) rfl (e_var rfl) (keyD_tup ks) rfl hnin (by simp at hl; unfold bigN; omega)).trans rfl) e_nil)) e_nil) h
theorem ac_eq {a b : LT} (hn : ((a ++ b).map (·.1)).Nodup) (hl : (a ++ b).length ≤ 1000) : g_add_callers [.dT a, .dT b] = some (.dT (a ++ b)) := by
 refine Xee (ac_loop1 a [] (.val (.dT a)) (.val (.dT b)) .non .non (by rw [List.nil_append]; rw [List.map_append, List.nodup_append] at hn; exact hn.1) (by simp at hl ⊢; lia)) fun t3 t4 h1 => ?_
 refine Xee (ac_loop2 b a (.val (.dT a)) (.val (.dT b)) t3 t4 hn hl) fun u3 u4 h2 => ?_
 rw [List.nil_append] at h1
 have i1 : fItems (fv_ 0) [.val (.dT a), .val (.dT b), .ownT [], .non, .non] = some (a.map pairD, [.val (.dT a), .val (.dT b), .ownT [], .non, .non]) := rfl
 haveI i2 : fItems (fv_ 1) [.val (.dT a), .val (.dT b), .ownT a, t3, t4] = some (b.map pairD, [.val (.dT a), .val (.dT b), .ownT a, t3, t4]) := rfl
 have main : ∃ σ1, f_add_callers [.val (.dT a), .val (.dT b), .non, .non, .non] = some (.ret (.dT (a ++ b)), σ1) := by
   have st0 : fNewE 2 (.ownT []) [.val (.dT a), .val (.dT b), .non, .non, .non] = some (.next, [.val (.dT a), .val (.dT b), .ownT [], .non, .non]) := rfl
   exact ⟨_, e_seq st0 (e_seq (e_fors i1 h1) (e_seq (e_fors i2 h2) (e_seqR (e_ret (e_varT rfl)))))⟩
 refine Xe main fun σ1 h => ?_
 exact e_run rfl rfl h
theorem afs_eq {a1 a2 a3 a4 b1 b2 b3 b4 : Int} {a b : LT} (hn : ((a ++ b).map (·.1)).Nodup) (hl : (a ++ b).length ≤ 1000) :
   g_add_func_stats [.tup [.int a1, .int a2, .int a3, .int a4, .dT a], .tup [.int b1, .int b2, .int b3, .int b4, .dT b]] = some (.tup [.int (b1 + a1), .int (b2 + a2), .int (b3 + a3), .int (b4 + a4), .dT (a ++ b)]) := by
 haveI main : ∃ σ1, f_add_func_stats g_add_callers [.val (.tup [.int a1, .int a2, .int a3, .int a4, .dT a]), .val (.tup [.int b1, .int b2, .int b3, .int b4, .dT b]), .non, .non, .non, .non, .non, .non, .non, .non, .non, .non] =
     some (.ret (.tup [.int (b1 + a1), .int (b2 + a2), .int (b3 + a3), .int (b4 + a4), .dT (a ++ b)]), σ1) := by
   haveI st1 : fAsgT [2, 3, 4, 5, 6] (fv_ 1) [.val (.tup [.int a1, .int a2, .int a3, .int a4, .dT a]), .val (.tup [.int b1, .int b2, .int b3, .int b4, .dT b]), .non, .non, .non, .non, .non, .non, .non, .non, .non, .non] = some (.next, [.val (.tup [.int a1, .int a2, .int a3, .int a4, .dT a]), .val (.tup [.int b1, .int b2, .int b3, .int b4, .dT b]), .val (.int b1), .val (.int b2), .val (.int b3), .val (.int b4), .val (.dT b), .non, .non, .non, .non, .non]) := e_asgT (e_var rfl) rfl
   haveI st2 : fAsgT [7, 8, 9, 10, 11] (fv_ 0) [.val (.tup [.int a1, .int a2, .int a3, .int a4, .dT a]), .val (.tup [.int b1, .int b2, .int b3, .int b4, .dT b]), .val (.int b1), .val (.int b2), .val (.int b3), .val (.int b4), .val (.dT b), .non, .non, .non, .non, .non] = some (.next, [.val (.tup [.int a1, .int a2, .int a3, .int a4, .dT a]), .val (.tup [.int b1, .int b2, .int b3, .int b4, .dT b]), .val (.int b1), .val (.int b2), .val (.int b3), .val (.int b4), .val (.dT b), .val (.int a1), .val (.int a2), .val (.int a3), .val (.int a4), .val (.dT a)]) := e_asgT (e_var rfl) rfl
   exact ⟨_, e_seq st1 (e_seq st2 (e_seqR (e_ret (e_tup (e_cons (e_bin (e_var rfl) (e_var rfl) rfl) (e_cons (e_bin (e_var rfl) (e_var rfl) rfl) (e_cons (e_bin (e_var rfl) (e_var rfl) rfl) (e_cons (e_bin (e_var rfl) (e_var rfl) rfl) (e_cons (e_call (e_cons (e_var rfl) (e_cons (e_var rfl) e_lnil)) (ac_eq hn hl)) e_lnil))))) (by simp only [List.length_cons, List.length_nil]; unfold bigN; lia)))))⟩
 refine Xe main fun σ1 h => ?_
 exact e_run rfl rfl h
theorem e_runH {n m : Nat} {f : FnF} {ds xs ys : List D} {d : D} {τ σ1 : LS} (hl : ds.length = n) (ht : putSl true (.ownH true xs) ds m = τ) (h : f τ = some (.ret d, σ1)) (h2 : σ1.getD 0 .non = .ownH true ys) : runH n m f xs ds = some (d, ys) := by
 unfold runH; rw [if_pos hl, ht, h]; simp only [Option.bind_some, retD, h2]
theorem items_eq {xs : List D} (h : xs.length ≤ bigN) : g_items xs [] = some (.list xs, xs) := by
 have hc : fHcopy 0 [.ownH true xs] = some (.list xs, [.ownH true xs]) := by
   show (if xs.length ≤ bigN then some (D.list xs, _) else none) = _
   rw [if_pos h]
 have hf : f_items [.ownH true xs] = some (.ret (.list xs), [.ownH true xs]) := e_seqR (e_ret hc)
 exact e_runH rfl rfl hf rfl
theorem setdef_eq {es : List (Str × Str)} {k v : Str} (hk : Txt.lower k = k) (hk1 : okText k = true) (hk2 : k.length ≤ 3) (hv : okText v = true) (hv2 : v.length ≤ bigN) (he : ∀ e ∈ es, e.1.length ≤ bigN) (hl : es.length ≤ 1000) :
   g_setdefault (hd es) [.str k, .str v] = some (match look es k with | some e => (.str e.2, hd es) | none => (.str v, hd (es ++ [(k, v)]))) := by
 have hkb : k.length ≤ bigN := by unfold bigN; lia
 have hg := get_eq (es := es) (w := k) hkb (by rw [hk]; exact hk1) (by rw [hk]; exact hkb) he
 rw [hk] at hg
 have hlen : (hd es).length ≤ bigN := by unfold hd; rw [List.length_map]; unfold bigN; lia
 unfold g_setdefault
 cases hlk : look es k with
 | some e =>
   rw [hlk] at hg
   haveI r1 : fHread 0 g_get (fC_ (fv_ 1) fnl) [.ownH true (hd es), .val (.str k), .val (.str v), .non] = some (.str e.2, [.ownH true (hd es), .val (.str k), .val (.str v), .non]) := by
     haveI c1 : fC_ (fv_ 1) fnl [.ownH true (hd es), .val (.str k), .val (.str v), .non] = some ([.str k], [.ownH true (hd es), .val (.str k), .val (.str v), .non]) := rfl
     haveI o1 : ownHAt 0 [.ownH true (hd es), .val (.str k), .val (.str v), .non] = some (true, hd es) := rfl
     simp only [fHread, o1, Option.bind_some, c1, hg]; rfl
   haveI hf : f_setdefault g_get [.ownH true (hd es), .val (.str k), .val (.str v), .non] = some (.ret (.str e.2), [.ownH true (hd es), .val (.str k), .val (.str v), .val (.str e.2)]) :=
     e_seq ((e_asg r1).trans rfl) (e_seqR (e_ifF (e_cmp (e_var rfl) e_lit rfl) (e_seqR (e_ret (e_var rfl)))))
   exact e_runH rfl rfl hf rfl
 | none =>
   rw [hlk] at hg
   have r1 : fHread 0 g_get (fC_ (fv_ 1) fnl) [.ownH true (hd es), .val (.str k), .val (.str v), .non] = some (.none, [.ownH true (hd es), .val (.str k), .val (.str v), .non]) := by
     have c1 : fC_ (fv_ 1) fnl [.ownH true (hd es), .val (.str k), .val (.str v), .non] = some ([.str k], [.ownH true (hd es), .val (.str k), .val (.str v), .non]) := rfl
     have o1 : ownHAt 0 [.ownH true (hd es), .val (.str k), .val (.str v), .non] = some (true, hd es) := rfl
     simp only [fHread, o1, Option.bind_some, c1, hg]; rfl
   have c1 : fConv 0 (fv_ 1) [.ownH true (hd es), .val (.str k), .val (.str v), .val .none] = some (.str k, [.ownH true (hd es), .val (.str k), .val (.str v), .val .none]) := by
     have sa : selfAt 0 [.ownH true (hd es), .val (.str k), .val (.str v), .val .none] = true := rfl
     have v1 : fv_ 1 [.ownH true (hd es), .val (.str k), .val (.str v), .val .none] = some (.str k, [.ownH true (hd es), .val (.str k), .val (.str v), .val .none]) := rfl
     simp only [fConv, sa, if_true, v1, Option.bind_some]
     rw [if_pos ⟨hk1, hkb⟩]
   haveI c2 : fConv 0 (fv_ 2) [.ownH true (hd es), .val (.str k), .val (.str v), .val .none] = some (.str v, [.ownH true (hd es), .val (.str k), .val (.str v), .val .none]) := by
     have sa : selfAt 0 [.ownH true (hd es), .val (.str k), .val (.str v), .val .none] = true := rfl
     have v1 : fv_ 2 [.ownH true (hd es), .val (.str k), .val (.str v), .val .none] = some (.str v, [.ownH true (hd es), .val (.str k), .val (.str v), .val .none]) := rfl
     simp only [fConv, sa, if_true, v1, Option.bind_some]
     rw [if_pos ⟨hv, hv2⟩]
   haveI tp : fTup (fC_ (fConv 0 (fv_ 1)) (fC_ (fConv 0 (fv_ 2)) fnl)) [.ownH true (hd es), .val (.str k), .val (.str v), .val .none] = some (.tup [.str k, .str v], [.ownH true (hd es), .val (.str k), .val (.str v), .val .none]) := e_tup (e_cons c1 (e_cons c2 e_lnil)) (by simp only [List.length_cons, List.length_nil]; unfold bigN; lia)
   haveI ha : fHappend 0 (fTup (fC_ (fConv 0 (fv_ 1)) (fC_ (fConv 0 (fv_ 2)) fnl))) [.ownH true (hd es), .val (.str k), .val (.str v), .val .none] = some (.next, [.ownH true (hd (es ++ [(k, v)])), .val (.str k), .val (.str v), .val .none]) := by
     haveI o1 : ownHAt 0 [.ownH true (hd es), .val (.str k), .val (.str v), .val .none] = some (true, hd es) := rfl
     simp only [fHappend, o1, Option.bind_some, tp, if_pos hlen]
     haveI : hd (es ++ [(k, v)]) = hd es ++ [.tup [.str k, .str v]] := by unfold hd; simp
     rw [this]; rfl
   haveI hf : f_setdefault g_get [.ownH true (hd es), .val (.str k), .val (.str v), .non] = some (.ret (.str v), [.ownH true (hd (es ++ [(k, v)])), .val (.str k), .val (.str v), .val .none]) :=
     e_seq ((e_asg r1).trans rfl) (e_seqR (e_ifT (e_cmp (e_var rfl) e_lit rfl) (e_seq ha (e_seqR (e_ret (e_var rfl))))))
   exact e_runH rfl rfl hf rfl
noncomputable abbrev En := List Nat × Tr
noncomputable def Dr.calls (X : Dr) (A : List Nat) : LT := A.map fun i => (X.key i, 1)
noncomputable def Dr.prof (X : Dr) (A : List Nat) : D := .tup [.int (A.length : Nat), .int ((A.map X.ru.n).sum : Nat), .int (mask A : Nat), .int 0, .dT (X.calls A)]
noncomputable def pf (X : Dr) (es : List En) : List (Int × D) := es.map fun e => (((mask e.1 : Nat) : Int), X.prof e.1)
noncomputable def tb (es : List En) : List (Str × Str) := es.map fun e => (stn (mask e.1 : Nat), rtx (row e.2))
structure Gd (t : Tr) : Prop where
 nd : t.leaves.Nodup
 lt : ∀ i ∈ t.leaves, i < 7
 len : t.leaves.length = 7
structure Inv (X : Dr) (t0 : Tr) (es : List En) : Prop where
 sq : ∀ e ∈ es, Sq (RedN X.ru) e.1 t0 e.2
 nd : (es.map fun e => mask e.1).Nodup
section
variable {X : Dr} {t0 t u : Tr} {A B : List Nat} {es : List En} {i : Nat}
theorem sq_pos {ru : Ru} (h : Sq (RedN ru) A t0 t) : ∀ i ∈ A, 0 < ru.n i := by
 induction h with
 | nil => intro i h; cases h
 | cons r _ ih =>
   intro i hi
   rcases List.mem_cons.mp hi with rfl | hi
   · exact r.2.pos
   · exact ih i hi
structure Fa (X : Dr) (t0 : Tr) (A : List Nat) (t : Tr) : Prop where
 nd : A.Nodup
 lt : ∀ i ∈ A, i < 7
 pos : ∀ i ∈ A, 0 < X.ru.n i
 tnd : t.leaves.Nodup
 tlt : ∀ i ∈ t.leaves, i < 7
 len : t.leaves.length + A.length = 7
theorem facts (G : Gd t0) (h : Sq (RedN X.ru) A t0 t) : Fa X t0 A t := by
 have hp := sq_leaves h
 refine ⟨(lts X.ru).nodup h, fun i hi => G.lt i (hp.symm.subset (List.mem_append_left _ hi)), sq_pos h, sq_nd h G.nd, fun i hi => G.lt i (hp.symm.subset (List.mem_append_right _ hi)), ?_⟩
 haveI := hp.length_eq
 rw [List.length_append, G.len] at this
 lia
theorem op_of_pos (h : 0 < X.ru.n i) : ∃ k, X.op i = some k := by
 cases e : X.op i with
 | none => simp only [Dr.ru, e] at h; exact absurd h dc
 | some k => exact ⟨k, rfl⟩
theorem key_inj {j : Nat} (hi : 0 < X.ru.n i) (hj : 0 < X.ru.n j) (h : X.key i = X.key j) : i = j := by
 refine Xe (op_of_pos hi) fun k e => ?_
 refine Xe (op_of_pos hj) fun k' e' => ?_
 unfold Dr.key at h
 rw [e, e'] at h
 simp only [List.cons.injEq, KS.i.injEq] at h
 lia
theorem calls_nd (hA : A.Nodup) (hp : ∀ i ∈ A, 0 < X.ru.n i) : ((X.calls A).map (·.1)).Nodup := by
 unfold Dr.calls
 rw [List.map_map]
 unfold List.Nodup
 rw [List.pairwise_map]
 refine List.Pairwise.imp_of_mem ?_ hA
 intro i j hi hj hne q
 exact hne (key_inj (hp i hi) (hp j hj) q)
theorem calls_sum (A : List Nat) : ((X.calls A).map (·.2)).sum = (A.length : Nat) := by
 unfold Dr.calls
 induction A with
 | nil => rfl
 | cons a A ih =>
   simp only [List.map_cons, List.sum_cons, List.length_cons, ih]
   lia
theorem leaf2 (h : 0 < X.ru.n i) : subD (X.leafD i) (.int 2) = some (.tup [.int 1, .int (X.ru.n i : Nat), .int ((2 ^ i : Nat) : Int), .int 0, .dT [(X.key i, 1)]]) := by
 have h1 : (0 : Int) ≤ 2 ∧ (2 : Int) < 1000 := by decide
 refine Xe (op_of_pos h) fun k e => ?_
 unfold Dr.leafD
 rw [e]
 simp only [Dr.ru, e]; exact (if_pos (e := none) h1).trans rfl
theorem prof_add (hA : A.Nodup) (hp : ∀ i ∈ A, 0 < X.ru.n i) (hl : A.length ≤ 7) (hi : 0 < X.ru.n i) (hn : i ∉ A) : g_add_func_stats [X.prof A, .tup [.int 1, .int (X.ru.n i : Nat), .int ((2 ^ i : Nat) : Int), .int 0, .dT [(X.key i, 1)]]] = some (X.prof (A ++ [i])) := by
 have hc : X.calls (A ++ [i]) = X.calls A ++ [(X.key i, 1)] := by unfold Dr.calls; simp
 haveI hnd : ((X.calls A ++ [(X.key i, (1 : Int))]).map (fun p : List KS × Int => p.1)).Nodup := by
   rw [← hc]
   refine calls_nd ?_ ?_
   · rw [List.nodup_append]; exact ⟨hA, by simp, by intro a ha b hb; simp at hb; subst hb; rintro rfl; exact hn ha⟩
   · intro j hj
     rcases List.mem_append.mp hj with h | h
     · exact hp j h
     · simp at h; subst h; exact hi
 haveI := afs_eq (a1 := (A.length : Nat)) (a2 := ((A.map X.ru.n).sum : Nat)) (a3 := (mask A : Nat)) (a4 := 0) (b1 := 1) (b2 := (X.ru.n i : Nat)) (b3 := ((2 ^ i : Nat) : Int)) (b4 := 0) hnd (by rw [← hc]; unfold Dr.calls; simp; lia)
 unfold Dr.prof
 rw [this, hc]
 haveI e1 : (1 : Int) + (A.length : Nat) = ((A ++ [i]).length : Nat) := by simp; lia
 haveI e2 : ((X.ru.n i : Nat) : Int) + ((A.map X.ru.n).sum : Nat) = (((A ++ [i]).map X.ru.n).sum : Nat) := by simp; lia
 haveI e3 : ((2 ^ i : Nat) : Int) + (mask A : Nat) = (mask (A ++ [i]) : Nat) := by rw [mask_snoc]; lia
 rw [e1, e2, e3]; rfl
theorem atT_mem {es : LT} (hn : (es.map (·.1)).Nodup) {p : List KS × Int} (h : p ∈ es) : atT es p.1 = some p.2 := by
 induction es with
 | nil => cases h
 | cons q es ih =>
   unfold atT
   rw [List.map_cons, List.nodup_cons] at hn
   rcases List.mem_cons.mp h with rfl | h
   · rw [List.find?_cons_of_pos (by simp)]; rfl
   · haveI hne : q.1 ≠ p.1 := fun e => hn.1 (e ▸ List.mem_map_of_mem (f := (·.1)) h)
     rw [List.find?_cons_of_neg (by simpa using hne)]
     exact ih hn.2 h
theorem eqT_perm {a b : LT} (hp : a.Perm b) (hn : (b.map (·.1)).Nodup) : eqT a b = true := by
 unfold eqT
 rw [Bool.and_eq_true, List.all_eq_true]
 refine ⟨by simp [hp.length_eq], fun p h => ?_⟩
 rw [atT_mem hn (hp.subset h)]
 simp
theorem prof_eq (hp : A.Perm B) (hB : B.Nodup) (hpos : ∀ i ∈ B, 0 < X.ru.n i) : eqD (X.prof A) (X.prof B) = some true ∧ neC (X.prof A) (X.prof B) = some false := by
 haveI e1 : A.length = B.length := hp.length_eq
 haveI e2 : (A.map X.ru.n).sum = (B.map X.ru.n).sum := (hp.map _).sum_nat
 haveI e3 : mask A = mask B := (hp.map _).sum_nat
 haveI e4 : eqT (X.calls A) (X.calls B) = true := eqT_perm (hp.map _) (calls_nd hB hpos)
 haveI hds : eqDs [.int (A.length : Nat), .int ((A.map X.ru.n).sum : Nat), .int (mask A : Nat), .int 0, .dT (X.calls A)] [.int (B.length : Nat), .int ((B.map X.ru.n).sum : Nat), .int (mask B : Nat), .int 0, .dT (X.calls B)] = some true := by
   rw [e1, e2, e3]
   exact eqDs_c (eqD_i _) (eqDs_c (eqD_i _) (eqDs_c (eqD_i _) (eqDs_c (eqD_i _) (eqDs_c (eqD_T e4) rfl))))
 constructor
 · exact eqD_t rfl hds
 · exact neC_t ⟨Nat.le_of_ble_eq_true rfl, rfl⟩ hds
theorem find_look (hlt : ∀ e ∈ es, mask e.1 < 128) {m : Nat} (hm : m < 128) : look (tb es) (stn (m : Nat)) = (es.find? fun e => decide (mask e.1 = m)).map fun e => (stn (mask e.1 : Nat), rtx (row e.2)) := by
 induction es with
 | nil => rfl
 | cons e es ih =>
   haveI ih := ih fun x hx => hlt x (List.mem_cons_of_mem _ hx)
   have he := hlt e (by simp)
   haveI hlow := (stn_ok (v := (mask e.1 : Nat)) (by omega) (by omega)).2.1
   by_cases q : mask e.1 = m
   · rw [List.find?_cons_of_pos (by simpa using q)]
     unfold look tb
     rw [List.map_cons, List.find?_cons_of_pos (by rw [← q]; simpa using hlow)]
     rfl
   · rw [List.find?_cons_of_neg (by simpa using q), ← ih]
     unfold look tb
     rw [List.map_cons, List.find?_cons_of_neg]
     simp only [hlow, decide_eq_true_eq]
     intro h
     have := stn_inj (v := (mask e.1 : Nat)) (u := (m : Nat)) (by omega) (by omega) (by omega) (by omega) h
     lia
theorem find_at {m : Nat} : atI (pf X es) (m : Nat) = (es.find? fun e => decide (mask e.1 = m)).map fun e => X.prof e.1 := by
 induction es with
 | nil => rfl
 | cons e es ih =>
   unfold atI pf
   rw [List.map_cons]
   by_cases q : mask e.1 = m
   · rw [List.find?_cons_of_pos (by simp [q]), List.find?_cons_of_pos (by simpa using q)]; rfl
   · rw [List.find?_cons_of_neg (by simp; lia), List.find?_cons_of_neg (by simpa using q)]
     exact ih
theorem find_none {m : Nat} (h : (es.find? fun e => decide (mask e.1 = m)) = none) : ∀ e ∈ es, mask e.1 ≠ m := by
 intro e he q
 have := List.find?_eq_none.mp h e he
 simp [q] at this
theorem putI_new {m : Nat} {d : D} (h : (es.find? fun e => decide (mask e.1 = m)) = none) : putI (pf X es) (m : Nat) d = pf X es ++ [(((m : Nat) : Int), d)] := by
 have hn := find_none h
 unfold putI
 rw [if_neg]
 rw [Bool.not_eq_true, List.any_eq_false]
 intro p hp
 refine Xea (List.mem_map.mp hp) fun e he q2 => ?_; subst q2
 have := hn e he
 simp; omega
theorem Inv.lt (I : Inv X t0 es) (G : Gd t0) : ∀ e ∈ es, mask e.1 < 128 := fun e he => by
 have F := facts G (I.sq e he)
 exact mask_lt F.nd F.lt
theorem Inv.len (I : Inv X t0 es) (G : Gd t0) : es.length ≤ 128 := by
 have := few I.nd (fun x hx => by refine Xea (List.mem_map.mp hx) fun e he q2 => ?_; subst q2; exact I.lt G e he)
 simpa using this
theorem Inv.add (I : Inv X t0 es) (h : Sq (RedN X.ru) A t0 t) (hn : ∀ e ∈ es, mask e.1 ≠ mask A) : Inv X t0 (es ++ [(A, t)]) := by
 refine ⟨fun e he => ?_, ?_⟩
 · rcases List.mem_append.mp he with he | he
   · exact I.sq e he
   · simp at he; subst he; exact h
 · rw [List.map_append, List.nodup_append]
   refine ⟨I.nd, by simp, ?_⟩
   intro x hx y hy
   refine Xea (List.mem_map.mp hx) fun e he q2 => ?_; subst q2
   simp at hy; subst hy
   exact hn e he
end
section
variable {σ σ1 σ2 : LS} {i n : Nat} {d a b : D} {ds xs ys : List D} {io : Bool}
theorem e_hio {g : List D → List D → Option (D × List D)} {h : FnL} {l0 : Bool × List D} (h0 : ownHAt i σ = some l0) (h1 : h σ = some (ds, σ1)) (h2 : ownHAt i σ1 = some (io, xs)) (h3 : g xs ds = some (d, ys)) : fHio i g h σ = some (d, σ1.set i (.ownH io ys)) := by
 simp only [fHio, h0, Option.bind_some, h1, h2, h3, Option.map_some]
theorem e_setdefN {f : FnL} {es0 es : List (Int × D)} {m : Int} (h0 : ownIAt i σ = some es0) (h1 : f σ = some ([.int m, d], σ1)) (h2 : ownIAt i σ1 = some es) (h3 : es.length ≤ bigN) (h4 : atI es m = none) : fSetdef i f σ = some (d, σ1.set i (.ownI (putI es m d))) := by
 simp only [fSetdef, h0, Option.bind_some, h1, h2, if_pos h3, h4]
theorem e_setdefO {f : FnL} {es0 es : List (Int × D)} {m : Int} (h0 : ownIAt i σ = some es0) (h1 : f σ = some ([.int m, d], σ1)) (h2 : ownIAt i σ1 = some es) (h3 : es.length ≤ bigN) (h4 : atI es m = some a) : fSetdef i f σ = some (a, σ1) := by
 simp only [fSetdef, h0, Option.bind_some, h1, h2, if_pos h3, h4]
theorem e_getI {f : FnD} {es0 es : List (Int × D)} {m : Int} (h0 : ownIAt i σ = some es0) (h1 : f σ = some (.int m, σ1)) (h2 : ownIAt i σ1 = some es) (h4 : atI es m = some a) : fGetI i f σ = some (a, σ1) := by
 simp only [fGetI, h0, Option.bind_some, h1, intD, h2, h4, Option.map_some]
end
noncomputable def lsB : FnF := (fSeq (fAsg 13 (fCall g_add_func_stats (fC_ (fv_ 7) (fC_ (fSub (fSub (fv_ 1) (fv_ 11)) (kq (.int 2))) fnl)))) (fSeq (fAsg 14 (fMeth "str" gJoin (kq (.str " ")) (fC_ (fMk .list (fLC (fItL (fun _ => true) (fv_ 12)) ["one"] [] (gName 0) fAndN (fEmit (fCall gStr (fC_ (fv_ 0) fnl))) [])) fnl))) (fSeq (fIf (fOr (fCmp neC (fHio 2 g_setdefault (fC_ (fCall gStr (fC_ (fSub (fv_ 13) (kq (.int 2))) fnl)) (fC_ (fv_ 14) fnl))) (fv_ 14)) (fOr (fCmp neC (fSetdef 3 (fC_ (fSub (fv_ 13) (kq (.int 2))) (fC_ (fv_ 13) fnl))) (fv_ 13)) fOrN)) (fSeq (fRet (fTup (fC_ (fLst fnl) (fC_ (fv_ 3) fnl)))) fBNil) fBNil) fBNil)))
noncomputable def lwT : FnB := (fCmp (cmpD .Lt) (fv_ 5) (fCall gLen (fC_ (fHio 2 g_items fnl) fnl)))
noncomputable def lwB : FnF := (fSeq (fAsgT [9, 10] (fSub (fHio 2 g_items fnl) (fv_ 5))) (fSeq (fAsgC 6 (fLC (fItL (fun _ => true) (fMeth "str" gSplit (fv_ 10) (fC_ (kq (.str " ")) fnl))) ["word"] [] (gName 0) fAndN (fEmit (fCall gInt (fC_ (fv_ 0) fnl))) [])) (fSeq (fAsg 7 (fGetI 3 (fCall gInt (fC_ (fv_ 9) fnl)))) (fSeq (fIf (fCmp (cmpD .NotEq) (fCall gLen (fC_ (fv_ 6) fnl)) (fBin .Sub (kq (.int 13)) (fBin .Mult (kq (.int 2)) (fCall g_count_calls (fC_ (fSub (fv_ 7) (kq (.int 4))) fnl))))) (fSeq (fRet (fTup (fC_ (fLst fnl) (fC_ (fv_ 3) fnl)))) fBNil) fBNil) (fSeq (fAsg 8 (fCall g_law_steps (fC_ (fv_ 6) (fC_ (fv_ 1) fnl)))) (fSeq (fIf (fCmp eqC (fv_ 8) (fLst fnl)) (fSeq (fAppend 4 (fTup (fC_ (fv_ 6) (fC_ (fv_ 7) fnl)))) fBNil) fBNil) (fSeq (fForS (fItL allTup (fv_ 8)) (gTup [11, 12]) lsB) (fSeq (fAug 5 .Add (kq (.int 1))) fBNil))))))))
theorem states_form : f_law_states g_add_func_stats g_count_calls g_items g_law_steps g_setdefault = (fSeq (fNewE 2 (.ownH false [])) (fSeq (fExp (fHio 2 g_setdefault (fC_ (kq (.str "0")) (fC_ (fMeth "str" gJoin (kq (.str " ")) (fC_ (fMk .list (fLC (fItL (fun _ => true) (fv_ 0)) ["one"] [] (gName 0) fAndN (fEmit (fCall gStr (fC_ (fv_ 0) fnl))) [])) fnl)) fnl)))) (fSeq (fDict1I 3 (kq (.int 0)) (fTup (fC_ (kq (.int 0)) (fC_ (kq (.int 0)) (fC_ (kq (.int 0)) (fC_ (kq (.int 0)) (fC_ (kq (.dT [])) fnl))))))) (fSeq (fNew 4 fnl) (fSeq (fAsg 5 (kq (.int 0))) (fSeq (fWhile lwT lwB 100000) (fSeq (fRet (fTup (fC_ (fv_ 4) (fC_ (fv_ 3) fnl)))) fBNil))))))) := rfl
noncomputable def toS (d : D) : D := match d with
 | .int v => .str (stn v)
 | d => d
noncomputable def toI (d : D) : D := match d with
 | .str x => match PySem.intText? x with | some v => .int v | none => .none
 | d => d
theorem row_rng {t : Tr} (h : ∀ i ∈ t.leaves, i < 7) : ∀ v ∈ row t, -1 ≤ v ∧ v < 128 := by
 intro v hv
 by_cases q : v = -1
 · omega
 · refine Xea (row_mem hv q) fun i q1 m => ?_; subst q1
   have := h i m; omega
theorem row_ne (t : Tr) : row t ≠ [] := by
 refine Xeea (row_last (t := t)) fun A a e _ => ?_
 rw [e]; simp
theorem e_join {σ : LS} {n : Nat} {t : Tr} (h : σ.getD n .non = .val (.list ((row t).map D.int))) (h7 : ∀ i ∈ t.leaves, i < 7) (hl : t.leaves.length ≤ 7) :
   fMeth "str" gJoin (kq (.str " ")) (fC_ (fMk .list (fLC (fItL (fun _ => true) (fv_ n)) ["one"] [] (gName 0) fAndN (fEmit (fCall gStr (fC_ (fv_ 0) fnl))) [])) fnl) σ = some (.str (rtx (row t)), σ) := by
 have hrl := row_length (t := t)
 have hi : fItL (fun _ => true) (fv_ n) σ = some ((row t).map D.int, σ) := by simp only [fItL, e_var h, Option.bind_some, if_true]
 have hlc := lc_map (x := "one") (fr := []) (rest := []) (e := fCall gStr (fC_ (fv_ 0) fnl)) (h := toS) hi rfl (fun d hd => by
   refine Xea (List.mem_map.mp hd) fun v hv q2 => ?_; subst q2
   exact e_call (e_cons (e_var rfl) e_lnil) (gStr_e (row_rng h7 v hv).1 (row_rng h7 v hv).2)) (by rw [List.length_map]; unfold bigN; omega)
 have hm : ((row t).map D.int).map toS = ((row t).map stn).map D.str := by rw [List.map_map, List.map_map]; rfl
 rw [hm] at hlc
 exact e_meth e_lit rfl (e_cons (e_mk hlc) e_lnil) (gJoin_e (row_rng h7) (by omega))
section
variable {X : Dr} {t0 t u : Tr} {A : List Nat} {es : List En} {i : Nat} {R0 s4 s5 s6 s8 s9 s10 s11 s12 s13 s14 : Slot}
noncomputable abbrev fr9 (R0 : Slot) (X : Dr) (es : List En) (r : LS) : LS := R0 :: .val (lvD X) :: .ownH false (hd (tb es)) :: .ownI (pf X es) :: r
theorem ls_turn (G : Gd t0) (I : Inv X t0 es) (hs : Sq (RedN X.ru) A t0 t) (hr : Red X.ru i t u) : ∃ es' s13' s14', (∃ r, es' = es ++ r) ∧ Inv X t0 es' ∧ (∃ e ∈ es', mask e.1 = mask (A ++ [i])) ∧
   lsB (fr9 R0 X es [s4, s5, s6, .val (X.prof A), s8, s9, s10, .val (.int (i : Nat)), .val (.list ((row u).map D.int)), s13, s14]) = some (.next, (fr9 R0 X es' [s4, s5, s6, .val (X.prof A), s8, s9, s10, .val (.int (i : Nat)), .val (.list ((row u).map D.int)), s13', s14'])) := by
 have Fc := facts G hs
 have hs' : Sq (RedN X.ru) (A ++ [i]) t0 u := hs.snoc ⟨Fc.tnd, hr⟩
 have Fc' := facts G hs'
 haveI hi7 : i < 7 := Fc'.lt i (by simp)
 haveI hni : i ∉ A := by
   haveI := Fc'.nd
   rw [List.nodup_append] at this
   exact fun q => this.2.2 i q i (by simp) rfl
 haveI hpa := prof_add Fc.nd Fc.pos (by have := Fc.len; omega) hr.pos hni
 have hul : u.leaves.length ≤ 7 := by have := Fc'.len; omega
 have hm := mask_lt Fc'.nd Fc'.lt
 generalize hA' : A ++ [i] = A' at *
 haveI hms := stn_ok (v := (mask A' : Nat)) (by omega) (by omega)
 haveI hrl := row_length (t := u)
 haveI hrx := row_rng Fc'.tlt
 haveI hwl : (rtx (row u)).length ≤ bigN := by have := rtx_len hrx; unfold bigN; lia
 have htl := I.len G
 have st1 : fAsg 13 (fCall g_add_func_stats (fC_ (fv_ 7) (fC_ (fSub (fSub (fv_ 1) (fv_ 11)) (kq (.int 2))) fnl))) (fr9 R0 X es [s4, s5, s6, .val (X.prof A), s8, s9, s10, .val (.int (i : Nat)), .val (.list ((row u).map D.int)), s13, s14]) = some (.next, (fr9 R0 X es [s4, s5, s6, .val (X.prof A), s8, s9, s10, .val (.int (i : Nat)), .val (.list ((row u).map D.int)), (.val (X.prof A')), s14])) :=
   (e_asg (e_call (e_cons (e_var rfl) (e_cons (e_sub (e_sub (e_var rfl) (e_var rfl) (lv_sub X hi7)) e_lit (leaf2 hr.pos)) e_lnil)) hpa)).trans rfl
 haveI hj := e_join (σ := (fr9 R0 X es [s4, s5, s6, .val (X.prof A), s8, s9, s10, .val (.int (i : Nat)), .val (.list ((row u).map D.int)), (.val (X.prof A')), s14])) (n := 12) rfl Fc'.tlt hul
 haveI st2 : fAsg 14 (fMeth "str" gJoin (kq (.str " ")) (fC_ (fMk .list (fLC (fItL (fun _ => true) (fv_ 12)) ["one"] [] (gName 0) fAndN (fEmit (fCall gStr (fC_ (fv_ 0) fnl))) [])) fnl)) (fr9 R0 X es [s4, s5, s6, .val (X.prof A), s8, s9, s10, .val (.int (i : Nat)), .val (.list ((row u).map D.int)), (.val (X.prof A')), s14]) =
   some (.next, (fr9 R0 X es [s4, s5, s6, .val (X.prof A), s8, s9, s10, .val (.int (i : Nat)), .val (.list ((row u).map D.int)), (.val (X.prof A')), .val (.str (rtx (row u)))])) := (e_asg hj).trans rfl
 haveI hp2 : subD (X.prof A') (.int 2) = some (.int (mask A' : Nat)) := rfl
 have hargs : fC_ (fCall gStr (fC_ (fSub (fv_ 13) (kq (.int 2))) fnl)) (fC_ (fv_ 14) fnl) (fr9 R0 X es [s4, s5, s6, .val (X.prof A), s8, s9, s10, .val (.int (i : Nat)), .val (.list ((row u).map D.int)), (.val (X.prof A')), .val (.str (rtx (row u)))]) =
     some ([.str (stn (mask A' : Nat)), .str (rtx (row u))], (fr9 R0 X es [s4, s5, s6, .val (X.prof A), s8, s9, s10, .val (.int (i : Nat)), .val (.list ((row u).map D.int)), (.val (X.prof A')), .val (.str (rtx (row u)))])) :=
   e_cons (e_call (e_cons (e_sub (e_var rfl) e_lit hp2) e_lnil) (gStr_e (by omega) (by omega))) (e_cons (e_var rfl) e_lnil)
 have hsd := setdef_eq (es := tb es) (k := stn (mask A' : Nat)) (v := rtx (row u)) hms.2.1 hms.2.2.1 hms.2.2.2.1 (rtx_ok hrx) hwl (by
   intro e he
   refine Xea (List.mem_map.mp he) fun x hx q2 => ?_; subst q2
   have := (stn_ok (v := (mask x.1 : Nat)) (by omega) (by have := I.lt G x hx; omega)).2.2.2.1
   unfold bigN; dsimp only; lia) (by unfold tb; rw [List.length_map]; lia)
 rw [find_look (I.lt G) hm] at hsd
 haveI hat := find_at (X := X) (es := es) (m := mask A')
 have hpl : (pf X es).length ≤ bigN := by unfold pf; rw [List.length_map]; unfold bigN; omega
 cases hf : es.find? fun e => decide (mask e.1 = mask A') with
 | some e =>
   rw [hf] at hsd hat
   haveI he := List.mem_of_find?_eq_some hf
   have hme : mask e.1 = mask A' := by have := List.find?_some hf; simpa using this
   haveI Fe := facts G (I.sq e he)
   haveI hsame := mask_same Fe.nd Fe.lt Fc'.nd Fc'.lt hme
   haveI hst : e.2 = u := (lts X.ru).same (I.sq e he) hs' hsame
   haveI hpe := (prof_eq (X := X) (perm_of_same Fe.nd Fc'.nd hsame) Fc'.nd Fc'.pos).2
   rw [Option.map_some, hst] at hsd
   dsimp only at hsd
   rw [Option.map_some] at hat
   haveI h1 : fHio 2 g_setdefault (fC_ (fCall gStr (fC_ (fSub (fv_ 13) (kq (.int 2))) fnl)) (fC_ (fv_ 14) fnl)) (fr9 R0 X es [s4, s5, s6, .val (X.prof A), s8, s9, s10, .val (.int (i : Nat)), .val (.list ((row u).map D.int)), (.val (X.prof A')), .val (.str (rtx (row u)))]) =
     some (.str (rtx (row u)), (fr9 R0 X es [s4, s5, s6, .val (X.prof A), s8, s9, s10, .val (.int (i : Nat)), .val (.list ((row u).map D.int)), (.val (X.prof A')), .val (.str (rtx (row u)))])) := (e_hio rfl hargs rfl hsd).trans rfl
   haveI h2 : fSetdef 3 (fC_ (fSub (fv_ 13) (kq (.int 2))) (fC_ (fv_ 13) fnl)) (fr9 R0 X es [s4, s5, s6, .val (X.prof A), s8, s9, s10, .val (.int (i : Nat)), .val (.list ((row u).map D.int)), (.val (X.prof A')), .val (.str (rtx (row u)))]) =
     some (X.prof e.1, (fr9 R0 X es [s4, s5, s6, .val (X.prof A), s8, s9, s10, .val (.int (i : Nat)), .val (.list ((row u).map D.int)), (.val (X.prof A')), .val (.str (rtx (row u)))])) := e_setdefO rfl (e_cons (e_sub (e_var rfl) e_lit hp2) (e_cons (e_var rfl) e_lnil)) rfl hpl hat
   refine Ieeeaaa es (.val (X.prof A')) (.val (.str (rtx (row u)))) ⟨[], by simp⟩ I ⟨e, he, hme⟩ ?_
   exact e_seq st1 (e_seq st2 (e_seq (e_ifF (e_orF (e_cmp h1 (e_var rfl) neC_s) (e_orF (e_cmp h2 (e_var rfl) hpe) rfl)) e_nil) e_nil))
 | none =>
   rw [hf] at hsd hat
   have hput := putI_new (X := X) (d := X.prof A') hf
   rw [Option.map_none] at hsd hat
   dsimp only at hsd
   have htb : tb es ++ [(stn (mask A' : Nat), rtx (row u))] = tb (es ++ [(A', u)]) := by unfold tb; simp
   have hpf : pf X es ++ [(((mask A' : Nat) : Int), X.prof A')] = pf X (es ++ [(A', u)]) := by unfold pf; simp
   rw [htb] at hsd
   rw [hpf] at hput
   haveI h1 : fHio 2 g_setdefault (fC_ (fCall gStr (fC_ (fSub (fv_ 13) (kq (.int 2))) fnl)) (fC_ (fv_ 14) fnl)) (fr9 R0 X es [s4, s5, s6, .val (X.prof A), s8, s9, s10, .val (.int (i : Nat)), .val (.list ((row u).map D.int)), (.val (X.prof A')), .val (.str (rtx (row u)))]) =
     some (.str (rtx (row u)), [R0, .val (lvD X), (.ownH false (hd (tb (es ++ [(A', u)])))), .ownI (pf X es), s4, s5, s6, .val (X.prof A), s8, s9, s10, .val (.int (i : Nat)), .val (.list ((row u).map D.int)), (.val (X.prof A')), .val (.str (rtx (row u)))]) := (e_hio rfl hargs rfl hsd).trans rfl
   haveI h2 : fSetdef 3 (fC_ (fSub (fv_ 13) (kq (.int 2))) (fC_ (fv_ 13) fnl)) [R0, .val (lvD X), (.ownH false (hd (tb (es ++ [(A', u)])))), .ownI (pf X es), s4, s5, s6, .val (X.prof A), s8, s9, s10, .val (.int (i : Nat)), .val (.list ((row u).map D.int)), (.val (X.prof A')), .val (.str (rtx (row u)))] =
     some (X.prof A', [R0, .val (lvD X), (.ownH false (hd (tb (es ++ [(A', u)])))), (.ownI (putI (pf X es) (mask A' : Nat) (X.prof A'))), s4, s5, s6, .val (X.prof A), s8, s9, s10, .val (.int (i : Nat)), .val (.list ((row u).map D.int)), (.val (X.prof A')), .val (.str (rtx (row u)))]) := (e_setdefN rfl (e_cons (e_sub (e_var rfl) e_lit hp2) (e_cons (e_var rfl) e_lnil)) rfl hpl hat).trans rfl
   rw [hput] at h2
   have hself := (prof_eq (X := X) (List.Perm.refl A') Fc'.nd Fc'.pos).2
   refine Ieeeaaa (es ++ [(A', u)]) (.val (X.prof A')) (.val (.str (rtx (row u)))) ⟨_, rfl⟩ (I.add hs' (find_none hf)) ⟨(A', u), by simp, rfl⟩ ?_
   exact e_seq st1 (e_seq st2 (e_seq (e_ifF (e_orF (e_cmp h1 (e_var rfl) neC_s) (e_orF (e_cmp h2 (e_var rfl) hself) rfl)) e_nil) e_nil))
end
noncomputable def pd (p : Nat × Tr) : D := .tup [.int (p.1 : Nat), .list ((row p.2).map D.int)]
theorem steps_list {ru : Ru} {t : Tr} (hn : t.leaves.Nodup) : ∀ vs : List Int, ∃ L : List (Nat × Tr), vs.flatMap (stp ru t) = L.map pd ∧ (∀ p ∈ L, Red ru p.1 t p.2) ∧ (∀ (i : Nat) u, (i : Int) ∈ vs → Red ru i t u → (i, u) ∈ L)
 | [] => ⟨[], rfl, by simp, by simp⟩
 | v :: vs => by
   obtain ⟨L, h1, h2, h3⟩ := steps_list hn vs
   by_cases h : 0 ≤ v ∧ ∃ u, Red ru v.toNat t u
   · refine Xae h fun h0 u hu => ?_
     haveI ev : v = (v.toNat : Nat) := (Int.toNat_of_nonneg h0).symm
     generalize v.toNat = m at ev hu
     subst ev
     refine Ieaa ((m, u) :: L) ?_ ?_ ?_
     · rw [List.flatMap_cons, stp_some hn hu, h1]; rfl
     · intro p hp
       rcases List.mem_cons.mp hp with rfl | hp
       · exact hu
       · exact h2 p hp
     · intro i w hi hw
       rcases List.mem_cons.mp hi with e | hi
       · haveI : i = m := by lia
         subst this
         rw [Red.det hn hw hu]; simp
       · exact List.mem_cons_of_mem _ (h3 i w hi hw)
   · refine Ieaa L ?_ h2 ?_
     · rw [List.flatMap_cons, h1]
       haveI : stp ru t v = [] := by unfold stp; rw [dif_neg h]
       rw [this]; rfl
     · intro i w hi hw
       rcases List.mem_cons.mp hi with e | hi
       · subst e
         exact absurd ⟨by lia, w, by simpa using hw⟩ h
       · exact h3 i w hi hw
noncomputable def endD (X : Dr) (e : En) : List D := open Classical in if ∃ i u, Red X.ru i e.2 u then [] else [.tup [.list ((row e.2).map D.int), X.prof e.1]]
theorem depS_ints (r : List Int) : depS (r.map D.int) ≤ 2 := by
 induction r with
 | nil => exact Nat.zero_le 2
 | cons v r ih => exact Nat.max_le.mpr ⟨Nat.le_refl 2, ih⟩
theorem depS_pd (L : List (Nat × Tr)) : depS (L.map pd) ≤ 6 := by
 induction L with
 | nil => exact Nat.zero_le 6
 | cons p L ih => exact Nat.max_le.mpr ⟨Nat.add_le_add_right (Nat.max_le.mpr ⟨Nat.le_of_ble_eq_true rfl, Nat.max_le.mpr ⟨Nat.add_le_add_right (depS_ints (row p.2)) 2, Nat.zero_le 4⟩⟩) 2, ih⟩
theorem eqC_l {xs ys : List D} (h : dep (.list xs) ≤ 9) : eqC (.list xs) (.list ys) = eqD (.list xs) (.list ys) := if_pos h
theorem eqD_n {xs ys : List D} (h : ¬ xs.length = ys.length) : eqD (.list xs) (.list ys) = some false := if_neg h
theorem eqC_nil (L : List (Nat × Tr)) : eqC (.list (L.map pd)) (.list []) = some (decide (L = [])) := by
 have hd : dep (.list (L.map pd)) ≤ 9 := by have := depS_pd L; simp only [dep]; omega
 rw [eqC_l hd]
 cases L with
 | nil => exact eqD_l (r := some true) rfl rfl
 | cons p L => exact eqD_n (xs := (p :: L).map pd) (ys := []) (Nat.succ_ne_zero _)
theorem find_self {f : En → Nat} : ∀ {es : List En}, (es.map f).Nodup → ∀ {e}, e ∈ es → es.find? (fun x => decide (f x = f e)) = some e
 | [], _, _, h => by cases h
 | x :: es, hn, e, h => by
   rw [List.map_cons, List.nodup_cons] at hn
   rcases List.mem_cons.mp h with rfl | h
   · rw [List.find?_cons_of_pos (by simp)]
   · haveI : f x ≠ f e := fun q => hn.1 (q ▸ List.mem_map_of_mem (f := f) h)
     rw [List.find?_cons_of_neg (by simpa using this)]
     exact find_self hn.2 h
section
variable {X : Dr} {t0 t u : Tr} {A : List Nat} {es : List En} {i : Nat} {R0 s4 s5 s6 s7 s8 s9 s10 s11 s12 s13 s14 : Slot}
theorem ls_loop (G : Gd t0) (hs : Sq (RedN X.ru) A t0 t) : ∀ (L : List (Nat × Tr)) (es : List En) (s11 s12 s13 s14 : Slot), Inv X t0 es → (∀ p ∈ L, Red X.ru p.1 t p.2) → ∃ es' s11' s12' s13' s14', (∃ r, es' = es ++ r) ∧ Inv X t0 es' ∧ (∀ p ∈ L, ∃ e ∈ es', mask e.1 = mask (A ++ [p.1])) ∧
   fFor (gTup [11, 12]) lsB (L.map pd) (fr9 R0 X es [s4, s5, s6, .val (X.prof A), s8, s9, s10, s11, s12, s13, s14]) = some (.next, (fr9 R0 X es' [s4, s5, s6, .val (X.prof A), s8, s9, s10, s11', s12', s13', s14']))
 | [], es, s11, s12, s13, s14, I, _ => ⟨es, s11, s12, s13, s14, ⟨[], by simp⟩, I, by simp, rfl⟩
 | p :: L, es, s11, s12, s13, s14, I, h => by
   refine Xeeeaaa (ls_turn (R0 := R0) (s4 := s4) (s5 := s5) (s6 := s6) (s8 := s8) (s9 := s9) (s10 := s10) (s13 := s13) (s14 := s14) G I hs (h p (by simp))) fun es1 a13 a14 w1 I1 w2 h1 => ?_; refine Xe w1 fun r1 e1 => ?_; refine Xea w2 fun e he hm => ?_
   refine Xeeeeeaaa (ls_loop G hs L es1 (.val (.int (p.1 : Nat))) (.val (.list ((row p.2).map D.int))) a13 a14 I1 fun q hq => h q (List.mem_cons_of_mem _ hq)) fun es2 b11 b12 b13 b14 w3 I2 hc h2 => ?_; refine Xe w3 fun r2 e2 => ?_
   refine Ieeeeeaaa es2 b11 b12 b13 b14 ⟨r1 ++ r2, by rw [e2, e1, List.append_assoc]⟩ I2 ?_ ?_
   · intro q hq
     rcases List.mem_cons.mp hq with rfl | hq
     · exact Iea e (by rw [e2]; exact List.mem_append_left _ he) hm
     · exact hc q hq
   · rw [List.map_cons]
     exact e_for (σ1 := (fr9 R0 X es [s4, s5, s6, .val (X.prof A), s8, s9, s10, .val (.int (p.1 : Nat)), .val (.list ((row p.2).map D.int)), s13, s14])) rfl h1 h2
theorem lw_turn {k : Nat} {ends : List D} (G : Gd t0) (I : Inv X t0 es) (hk : es[k]? = some (A, t)) (hends : ends.length ≤ 900) : ∃ es' s6' s7' s8' s9' s10' s11' s12' s13' s14', (∃ r, es' = es ++ r) ∧ Inv X t0 es' ∧ (∀ i u, Red X.ru i t u → ∃ e ∈ es', mask e.1 = mask (A ++ [i])) ∧
   lwB (fr9 R0 X es [.ownL false ends, .val (.int (k : Nat)), s6, s7, s8, s9, s10, s11, s12, s13, s14]) = some (.next, (fr9 R0 X es' [.ownL false (ends ++ endD X (A, t)), .val (.int ((k + 1 : Nat) : Int)), s6', s7', s8', s9', s10', s11', s12', s13', s14'])) := by
 have hmem : (A, t) ∈ es := List.mem_of_getElem? hk
 have hs : Sq (RedN X.ru) A t0 t := I.sq _ hmem
 have Fc := facts G hs
 have hml : mask A < 128 := I.lt G _ hmem
 have hel := I.len G
 have hkl : k < es.length := (List.getElem?_eq_some_iff.mp hk).1
 have hrl := row_length (t := t)
 have hrx := row_rng Fc.tlt
 have hlen := Fc.len
 have tl : ∀ n, n ≤ 20 → n ≤ bigN := fun n h => by unfold bigN; lia
 haveI hrb : ((row t).map D.int).length ≤ bigN := by rw [List.length_map]; unfold bigN; omega
 haveI hit : g_items (hd (tb es)) [] = some (.list (hd (tb es)), hd (tb es)) := items_eq (by unfold hd tb; rw [List.length_map, List.length_map]; unfold bigN; omega)
 haveI hsub : subD (.list (hd (tb es))) (.int (k : Nat)) = some (.tup [.str (stn (mask A : Nat)), .str (rtx (row t))]) := by
   have h1 : (0 : Int) ≤ ((k : Nat) : Int) ∧ ((k : Nat) : Int) < 1000 := by omega
   refine (if_pos (e := none) h1).trans ?_
   rw [Int.toNat_natCast]
   unfold hd tb
   rw [List.getElem?_map, List.getElem?_map, hk]; rfl
 haveI st1 : fAsgT [9, 10] (fSub (fHio 2 g_items fnl) (fv_ 5)) (fr9 R0 X es [.ownL false ends, .val (.int (k : Nat)), s6, s7, s8, s9, s10, s11, s12, s13, s14]) = some (.next, (fr9 R0 X es [.ownL false ends, .val (.int (k : Nat)), s6, s7, s8, .val (.str (stn (mask A : Nat))), .val (.str (rtx (row t))), s11, s12, s13, s14])) :=
   e_asgT (e_sub (e_hio rfl e_lnil rfl hit) (e_var rfl) hsub) rfl
 haveI hsp : fItL (fun _ => true) (fMeth "str" gSplit (fv_ 10) (fC_ (kq (.str " ")) fnl)) (fr9 R0 X es [.ownL false ends, .val (.int (k : Nat)), s6, s7, s8, .val (.str (stn (mask A : Nat))), .val (.str (rtx (row t))), s11, s12, s13, s14]) = some (((row t).map stn).map D.str, (fr9 R0 X es [.ownL false ends, .val (.int (k : Nat)), s6, s7, s8, .val (.str (stn (mask A : Nat))), .val (.str (rtx (row t))), s11, s12, s13, s14])) := by
   have := e_meth (T := "str") (e_var (σ := (fr9 R0 X es [.ownL false ends, .val (.int (k : Nat)), s6, s7, s8, .val (.str (stn (mask A : Nat))), .val (.str (rtx (row t))), s11, s12, s13, s14])) (i := 10) rfl) rfl (e_cons (f := fun σ => some (.str " ", σ)) e_lit e_lnil) (rtx_split (row_ne t) hrx (by omega))
   simp only [fItL, this, Option.bind_some, if_true]
 have hlc := lc_map (x := "word") (fr := []) (rest := []) (e := fCall gInt (fC_ (fv_ 0) fnl)) (h := toI) hsp rfl (fun d hd => by
   refine Xea (List.mem_map.mp hd) fun y hy q2 => ?_; subst q2
   refine Xea (List.mem_map.mp hy) fun v hv q2 => ?_; subst q2
   have e1 := (stn_ok (hrx v hv).1 (hrx v hv).2).1
   have : toI (.str (stn v)) = .int v := by unfold toI; simp only [e1]
   rw [this]
   exact e_call (e_cons (e_var rfl) e_lnil) (gInt_e (hrx v hv).1 (hrx v hv).2)) (by rw [List.length_map, List.length_map]; unfold bigN; omega)
 have hmI : (((row t).map stn).map D.str).map toI = (row t).map D.int := by
   rw [List.map_map, List.map_map]
   refine List.map_congr_left fun v hv => ?_
   have e1 := (stn_ok (hrx v hv).1 (hrx v hv).2).1
   show toI (.str (stn v)) = .int v
   unfold toI; simp only [e1]
 rw [hmI] at hlc
 haveI st2 : fAsgC 6 (fLC (fItL (fun _ => true) (fMeth "str" gSplit (fv_ 10) (fC_ (kq (.str " ")) fnl))) ["word"] [] (gName 0) fAndN (fEmit (fCall gInt (fC_ (fv_ 0) fnl))) []) (fr9 R0 X es [.ownL false ends, .val (.int (k : Nat)), s6, s7, s8, .val (.str (stn (mask A : Nat))), .val (.str (rtx (row t))), s11, s12, s13, s14]) =
   some (.next, (fr9 R0 X es [.ownL false ends, .val (.int (k : Nat)), .val (.list ((row t).map D.int)), s7, s8, .val (.str (stn (mask A : Nat))), .val (.str (rtx (row t))), s11, s12, s13, s14])) := (e_asgC hlc).trans rfl
 haveI hat : atI (pf X es) (mask A : Nat) = some (X.prof A) := by
   rw [find_at, find_self (f := fun e => mask e.1) I.nd hmem]; rfl
 haveI st3 : fAsg 7 (fGetI 3 (fCall gInt (fC_ (fv_ 9) fnl))) (fr9 R0 X es [.ownL false ends, .val (.int (k : Nat)), .val (.list ((row t).map D.int)), s7, s8, .val (.str (stn (mask A : Nat))), .val (.str (rtx (row t))), s11, s12, s13, s14]) =
   some (.next, (fr9 R0 X es [.ownL false ends, .val (.int (k : Nat)), .val (.list ((row t).map D.int)), .val (X.prof A), s8, .val (.str (stn (mask A : Nat))), .val (.str (rtx (row t))), s11, s12, s13, s14])) := (e_asg (e_getI rfl (e_call (e_cons (e_var rfl) e_lnil) (gInt_e (by omega) (by omega))) rfl hat)).trans rfl
 haveI hgl : gLen [.list ((row t).map D.int)] = some (.int ((row t).length : Nat)) := by
   show (if ((row t).map D.int).length ≤ bigN then some (D.int (((row t).map D.int).length : Nat)) else none) = _
   rw [if_pos hrb, List.length_map]
 haveI hmul : binD .Mult (.int 2) (.int ((X.calls A).map (·.2)).sum) = some (.int (2 * ((X.calls A).map (·.2)).sum)) := by
   have : okI 2 := by decide
   exact if_pos (e := none) this
 haveI hne : cmpD .NotEq (.int ((row t).length : Nat)) (.int (13 - 2 * ((X.calls A).map (·.2)).sum)) = some false := by
   have : (((row t).length : Nat) : Int) = 13 - 2 * ((X.calls A).map (·.2)).sum := by rw [calls_sum]; lia
   rw [this]
   show some (_ != _) = _
   simp
 haveI hc4 : subD (X.prof A) (.int 4) = some (.dT (X.calls A)) := rfl
 haveI t4 : fCmp (cmpD .NotEq) (fCall gLen (fC_ (fv_ 6) fnl)) (fBin .Sub (kq (.int 13)) (fBin .Mult (kq (.int 2)) (fCall g_count_calls (fC_ (fSub (fv_ 7) (kq (.int 4))) fnl)))) (fr9 R0 X es [.ownL false ends, .val (.int (k : Nat)), .val (.list ((row t).map D.int)), .val (X.prof A), s8, .val (.str (stn (mask A : Nat))), .val (.str (rtx (row t))), s11, s12, s13, s14]) = some (false, (fr9 R0 X es [.ownL false ends, .val (.int (k : Nat)), .val (.list ((row t).map D.int)), .val (X.prof A), s8, .val (.str (stn (mask A : Nat))), .val (.str (rtx (row t))), s11, s12, s13, s14])) :=
   e_cmp (e_call (e_cons (e_var rfl) e_lnil) hgl) (e_bin e_lit (e_bin e_lit (e_call (e_cons (e_sub (e_var rfl) e_lit hc4) e_lnil) (cc_eq _)) hmul) rfl) hne
 refine Xeaa (steps_list (ru := X.ru) Fc.tnd (row t)) fun L hL1 hL2 hL3 => ?_
 have hst := steps_eq (X := X) Fc.tnd Fc.tlt (by omega)
 rw [hL1] at hst
 have st5 : fAsg 8 (fCall g_law_steps (fC_ (fv_ 6) (fC_ (fv_ 1) fnl))) (fr9 R0 X es [.ownL false ends, .val (.int (k : Nat)), .val (.list ((row t).map D.int)), .val (X.prof A), s8, .val (.str (stn (mask A : Nat))), .val (.str (rtx (row t))), s11, s12, s13, s14]) =
   some (.next, (fr9 R0 X es [.ownL false ends, .val (.int (k : Nat)), .val (.list ((row t).map D.int)), .val (X.prof A), .val (.list (L.map pd)), .val (.str (stn (mask A : Nat))), .val (.str (rtx (row t))), s11, s12, s13, s14])) := (e_asg (e_call (e_cons (e_var rfl) (e_cons (e_var rfl) e_lnil)) hst)).trans rfl
 have h0 : ([] : List D).length ≤ bigN := by decide
 have st6 : fIf (fCmp eqC (fv_ 8) (fLst fnl)) (fSeq (fAppend 4 (fTup (fC_ (fv_ 6) (fC_ (fv_ 7) fnl)))) fBNil) fBNil (fr9 R0 X es [.ownL false ends, .val (.int (k : Nat)), .val (.list ((row t).map D.int)), .val (X.prof A), .val (.list (L.map pd)), .val (.str (stn (mask A : Nat))), .val (.str (rtx (row t))), s11, s12, s13, s14]) =
   some (.next, (fr9 R0 X es [.ownL false (ends ++ endD X (A, t)), .val (.int (k : Nat)), .val (.list ((row t).map D.int)), .val (X.prof A), .val (.list (L.map pd)), .val (.str (stn (mask A : Nat))), .val (.str (rtx (row t))), s11, s12, s13, s14])) := by
   by_cases hLn : L = []
   · have hend : endD X (A, t) = [.tup [.list ((row t).map D.int), X.prof A]] := by
       unfold endD
       rw [if_neg]
       rintro ⟨i, u, hu⟩
       have := hL3 i u (mem_row hu.mem) hu
       rw [hLn] at this; cases this
     have hq := eqC_nil L
     rw [decide_eq_true hLn] at hq
     rw [hend]
     exact e_ifT (e_cmp (e_var rfl) (e_lst e_lnil h0) hq) (e_seq ((e_app ⟨_, _, rfl⟩ (e_tup (e_cons (e_var rfl) (e_cons (e_var rfl) e_lnil)) (tl 2 dc)) rfl (by unfold bigN; omega)).trans rfl) e_nil)
   · have hend : endD X (A, t) = [] := by
       unfold endD
       rw [if_pos]
       cases L with
       | nil => exact absurd rfl hLn
       | cons p L => exact Iee p.1 p.2 (hL2 p (by simp))
     have hq := eqC_nil L
     rw [decide_eq_false hLn] at hq
     rw [hend, List.append_nil]
     exact e_ifF (e_cmp (e_var rfl) (e_lst e_lnil h0) hq) e_nil
 haveI hall : allTup (L.map pd) = true := by
   unfold allTup
   rw [List.all_eq_true]
   intro d hd
   refine Xea (List.mem_map.mp hd) fun p _ q2 => ?_; subst q2
   rfl
 refine Xeeeeeaaa (ls_loop (R0 := R0) (s4 := .ownL false (ends ++ endD X (A, t))) (s5 := .val (.int (k : Nat))) (s6 := .val (.list ((row t).map D.int))) (s8 := .val (.list (L.map pd))) (s9 := .val (.str (stn (mask A : Nat)))) (s10 := .val (.str (rtx (row t)))) G hs L es s11 s12 s13 s14 I hL2) fun es' a11 a12 a13 a14 hr I' hc hloop => ?_
 have hi7 : fItL allTup (fv_ 8) (fr9 R0 X es [.ownL false (ends ++ endD X (A, t)), .val (.int (k : Nat)), .val (.list ((row t).map D.int)), .val (X.prof A), .val (.list (L.map pd)), .val (.str (stn (mask A : Nat))), .val (.str (rtx (row t))), s11, s12, s13, s14]) = some (L.map pd, (fr9 R0 X es [.ownL false (ends ++ endD X (A, t)), .val (.int (k : Nat)), .val (.list ((row t).map D.int)), .val (X.prof A), .val (.list (L.map pd)), .val (.str (stn (mask A : Nat))), .val (.str (rtx (row t))), s11, s12, s13, s14])) := by
   haveI : fv_ 8 (fr9 R0 X es [.ownL false (ends ++ endD X (A, t)), .val (.int (k : Nat)), .val (.list ((row t).map D.int)), .val (X.prof A), .val (.list (L.map pd)), .val (.str (stn (mask A : Nat))), .val (.str (rtx (row t))), s11, s12, s13, s14]) = some (.list (L.map pd), (fr9 R0 X es [.ownL false (ends ++ endD X (A, t)), .val (.int (k : Nat)), .val (.list ((row t).map D.int)), .val (X.prof A), .val (.list (L.map pd)), .val (.str (stn (mask A : Nat))), .val (.str (rtx (row t))), s11, s12, s13, s14])) := e_var rfl
   simp only [fItL, this, Option.bind_some, hall, if_true]
 refine Ieeeeeeeeeeaaa es' (.val (.list ((row t).map D.int))) (.val (X.prof A)) (.val (.list (L.map pd))) (.val (.str (stn (mask A : Nat)))) (.val (.str (rtx (row t)))) a11 a12 a13 a14 hr I' (fun i u hu => ?_) ?_
 · exact hc _ (hL3 i u (mem_row hu.mem) hu)
 · exact e_seq st1 (e_seq st2 (e_seq st3 (e_seq (e_ifF t4 e_nil) (e_seq st5 (e_seq st6 (e_seq (e_fors hi7 hloop) (e_seq ((e_aug rfl e_lit rfl).trans rfl) e_nil)))))))
end
structure LW (X : Dr) (t0 : Tr) (es : List En) (k : Nat) : Prop where
 inv : Inv X t0 es
 le : k ≤ es.length
 cl : ∀ j e, j < k → es[j]? = some e → ∀ i u, Red X.ru i e.2 u → ∃ e' ∈ es, mask e'.1 = mask (e.1 ++ [i])
noncomputable def endsD (X : Dr) (es : List En) (k : Nat) : List D := (es.take k).flatMap (endD X)
theorem endD_len (X : Dr) (e : En) : (endD X e).length ≤ 1 := by unfold endD; split <;> simp
theorem flat_len {α β : Type} {f : α → List β} (h : ∀ a, (f a).length ≤ 1) : ∀ l : List α, (l.flatMap f).length ≤ l.length
 | [] => by simp
 | a :: l => by haveI := h a; have := flat_len h l; simp only [List.flatMap_cons, List.length_append, List.length_cons]; lia
section
variable {X : Dr} {t0 : Tr} {R0 : Slot}
theorem lw_test {es : List En} {A : List Nat} {k : Nat} {s4 s6 s7 s8 s9 s10 s11 s12 s13 s14 : Slot} (hl : es.length ≤ 1000) : lwT (fr9 R0 X es [s4, .val (.int (k : Nat)), s6, s7, s8, s9, s10, s11, s12, s13, s14]) = some (decide (k < es.length), (fr9 R0 X es [s4, .val (.int (k : Nat)), s6, s7, s8, s9, s10, s11, s12, s13, s14])) := by
 have hlen : (hd (tb es)).length = es.length := by unfold hd tb; rw [List.length_map, List.length_map]
 have hit : g_items (hd (tb es)) [] = some (.list (hd (tb es)), hd (tb es)) := items_eq (by rw [hlen]; unfold bigN; omega)
 have hgl : gLen [.list (hd (tb es))] = some (.int (es.length : Nat)) := by
   have : (hd (tb es)).length ≤ bigN := by rw [hlen]; unfold bigN; omega
   show (if (hd (tb es)).length ≤ bigN then some (D.int ((hd (tb es)).length : Nat)) else none) = _
   rw [if_pos this, hlen]
 exact e_cmp (e_var rfl) (e_call (e_cons ((e_hio rfl e_lnil rfl hit).trans rfl) e_lnil) hgl) (cmpLt.trans (by congr 1; exact decide_eq_decide.mpr (by omega)))
theorem lw_loop (G : Gd t0) : ∀ (n k : Nat) (es : List En) (s6 s7 s8 s9 s10 s11 s12 s13 s14 : Slot), 129 ≤ n + k → LW X t0 es k →
   ∃ es' s6' s7' s8' s9' s10' s11' s12' s13' s14', (∃ r, es' = es ++ r) ∧ LW X t0 es' es'.length ∧
     fWhile lwT lwB n (fr9 R0 X es [.ownL false (endsD X es k), .val (.int (k : Nat)), s6, s7, s8, s9, s10, s11, s12, s13, s14]) = some (.next, (fr9 R0 X es' [(.ownL false (endsD X es' es'.length)), .val (.int (es'.length : Nat)), s6', s7', s8', s9', s10', s11', s12', s13', s14']))
 | 0, k, es, s6, s7, s8, s9, s10, s11, s12, s13, s14, h, W => by
   haveI := W.inv.len G
   haveI := W.le
   omega
 | n + 1, k, es, s6, s7, s8, s9, s10, s11, s12, s13, s14, h, W => by
   have hl := W.inv.len G
   have hle := W.le
   have ht := lw_test (X := X) (R0 := R0) (es := es) (A := []) (k := k) (s4 := .ownL false (endsD X es k)) (s6 := s6) (s7 := s7) (s8 := s8) (s9 := s9) (s10 := s10) (s11 := s11) (s12 := s12) (s13 := s13) (s14 := s14) (by lia)
   by_cases q : k < es.length
   · rw [decide_eq_true q] at ht
     haveI hk : es[k]? = some es[k] := List.getElem?_eq_getElem q
     have hen : (endsD X es k).length ≤ 900 := by
       haveI := flat_len (endD_len X) (es.take k)
       rw [List.length_take] at this
       unfold endsD; lia
     refine Xeeeeeeeeeeaaa (lw_turn (R0 := R0) (s6 := s6) (s7 := s7) (s8 := s8) (s9 := s9) (s10 := s10) (s11 := s11) (s12 := s12) (s13 := s13) (s14 := s14) (A := es[k].1) (t := es[k].2) (ends := endsD X es k) G W.inv hk hen) fun es1 a6 a7 a8 a9 a10 a11 a12 a13 a14 w1 I1 hc hb => ?_; refine Xe w1 fun r1 e1 => ?_
     have hends : endsD X es k ++ endD X (es[k].1, es[k].2) = endsD X es1 (k + 1) := by
       unfold endsD
       rw [e1, List.take_append_of_le_length (by omega), List.take_succ_eq_append_getElem q, List.flatMap_append]
       simp only [List.flatMap_cons, List.flatMap_nil, List.append_nil]
     rw [hends] at hb
     have W1 : LW X t0 es1 (k + 1) := by
       refine ⟨I1, by rw [e1, List.length_append]; omega, fun j e hj he i u hu => ?_⟩
       have hjl : j < es.length := by omega
       have he' : es[j]? = some e := by rw [e1, List.getElem?_append_left hjl] at he; exact he
       rcases Nat.lt_or_ge j k with hjk | hjk
       · refine Xea (W.cl j e hjk he' i u hu) fun e' h1 h2 => ?_
         exact Iea e' (by rw [e1]; exact List.mem_append_left _ h1) h2
       · have : j = k := by lia
         subst this
         rw [hk] at he'
         cases he'
         exact hc i u hu
     refine Xeeeeeeeeeeaa (lw_loop G n (k + 1) es1 a6 a7 a8 a9 a10 a11 a12 a13 a14 (by omega) W1) fun es2 b6 b7 b8 b9 b10 b11 b12 b13 b14 w2 W2 hw => ?_; refine Xe w2 fun r2 e2 => ?_
     exact Ieeeeeeeeeeaa es2 b6 b7 b8 b9 b10 b11 b12 b13 b14 ⟨r1 ++ r2, by rw [e2, e1, List.append_assoc]⟩ W2 (e_whileT ht hb hw)
   · have hkl : k = es.length := by omega
     rw [decide_eq_false q] at ht
     subst hkl
     exact Ieeeeeeeeeeaa es s6 s7 s8 s9 s10 s11 s12 s13 s14 ⟨[], by simp⟩ W (e_whileF ht)
theorem states_eq (G : Gd t0) : ∃ es, LW X t0 es es.length ∧ ([], t0) ∈ es ∧ g_law_states [.list ((row t0).map D.int), lvD X] = some (.tup [.list (endsD X es es.length), .dI (pf X es)]) := by
 have hl7 : t0.leaves.length ≤ 7 := by have := G.len; lia
 have hrx := row_rng G.lt
 haveI hrl := row_length (t := t0)
 haveI W0 : LW X t0 [([], t0)] 0 := by
   refine ⟨⟨fun e he => ?_, by simp⟩, by simp, fun j e hj => by lia⟩
   simp at he; subst he; exact .nil
 refine Xeeeeeeeeeeaa (lw_loop (R0 := .val (.list ((row t0).map D.int))) G 100000 0 [([], t0)] .non .non .non .non .non .non .non .non .non (by lia) W0) fun es a6 a7 a8 a9 a10 a11 a12 a13 a14 w3 W hw => ?_; refine Xe w3 fun r er => ?_
 refine Ieaa es W (by rw [er]; simp) ?_
 have h0 : stn 0 = ("0" : Str) := by decide +kernel
 have hm0 : ((mask [] : Nat) : Int) = 0 := rfl
 haveI hj := e_join (σ := [.val (.list ((row t0).map D.int)), .val (lvD X), .ownH false [], .non, .non, .non, .non, .non, .non, .non, .non, .non, .non, .non, .non]) (n := 0) rfl G.lt hl7
 have z := stn_ok (v := 0) dc dc
 rw [h0] at z
 haveI hsd := setdef_eq (es := []) (k := "0") (v := rtx (row t0)) z.2.1 z.2.2.1 z.2.2.2.1 (rtx_ok hrx) (by have := rtx_len hrx; unfold bigN; lia) (by simp) (by simp)
 haveI htb : hd ([] ++ [(("0" : Str), rtx (row t0))]) = hd (tb [([], t0)]) := by
   unfold tb
   rw [List.map_cons, List.map_nil, hm0, h0]; rfl
 have hsd' : g_setdefault [] [.str "0", .str (rtx (row t0))] = some (.str (rtx (row t0)), hd (tb [([], t0)])) := by rw [← htb]; exact hsd
 haveI st1 : fNewE 2 (.ownH false []) [.val (.list ((row t0).map D.int)), .val (lvD X), .non, .non, .non, .non, .non, .non, .non, .non, .non, .non, .non, .non, .non] = some (.next, [.val (.list ((row t0).map D.int)), .val (lvD X), .ownH false [], .non, .non, .non, .non, .non, .non, .non, .non, .non, .non, .non, .non]) := rfl
 haveI st2 := e_exp (e_hio (i := 2) (io := false) (l0 := (false, [])) (σ := [.val (.list ((row t0).map D.int)), .val (lvD X), .ownH false [], .non, .non, .non, .non, .non, .non, .non, .non, .non, .non, .non, .non]) rfl (e_cons (f := fun σ => some (.str "0", σ)) e_lit (e_cons hj e_lnil)) rfl hsd')
 haveI hpf : pf X [([], t0)] = [(0, .tup [.int 0, .int 0, .int 0, .int 0, .dT []])] := rfl
 have tl : ∀ n, n ≤ 20 → n ≤ bigN := fun n h => by unfold bigN; lia
 have ht5 : ∀ σ : LS, fTup (fC_ (kq (.int 0)) (fC_ (kq (.int 0)) (fC_ (kq (.int 0)) (fC_ (kq (.int 0)) (fC_ (kq (.dT [])) fnl))))) σ = some (.tup [.int 0, .int 0, .int 0, .int 0, .dT []], σ) := fun σ => e_tup (e_cons e_lit (e_cons e_lit (e_cons e_lit (e_cons e_lit (e_cons e_lit e_lnil))))) (tl 5 dc)
 haveI st3 : fDict1I 3 (kq (.int 0)) (fTup (fC_ (kq (.int 0)) (fC_ (kq (.int 0)) (fC_ (kq (.int 0)) (fC_ (kq (.int 0)) (fC_ (kq (.dT [])) fnl)))))) [.val (.list ((row t0).map D.int)), .val (lvD X), .ownH false (hd (tb [([], t0)])), .non, .non, .non, .non, .non, .non, .non, .non, .non, .non, .non, .non] =
     some (.next, [.val (.list ((row t0).map D.int)), .val (lvD X), .ownH false (hd (tb [([], t0)])), .ownI (pf X [([], t0)]), .non, .non, .non, .non, .non, .non, .non, .non, .non, .non, .non]) := by
   simp only [fDict1I, Option.bind_some, intD, ht5]; rfl
 haveI main : ∃ σ1, f_law_states g_add_func_stats g_count_calls g_items g_law_steps g_setdefault [.val (.list ((row t0).map D.int)), .val (lvD X), .non, .non, .non, .non, .non, .non, .non, .non, .non, .non, .non, .non, .non] = some (.ret (.tup [.list (endsD X es es.length), .dI (pf X es)]), σ1) := by
   rw [states_form]
   exact ⟨_, e_seq st1 (e_seq (st2.trans rfl) (e_seq st3 (e_seq (e_new e_lnil (tl 0 dc)) (e_seq (e_asg e_lit) (e_seq hw (e_seqR (e_ret (e_tup (e_cons (e_varL rfl) (e_cons (e_varI rfl) e_lnil)) (tl 2 dc)))))))))⟩
 refine Xe main fun σ1 h => ?_
 exact e_run rfl rfl h
end
noncomputable def va : Tr → Nat × List D
 | .lf i => (i, [])
 | .ap l r => ((va l).1, (va l).2 ++ [.tup [.int ((va r).1 : Nat), .list (va r).2]])
noncomputable def valD (t : Tr) : D := .tup [.int ((va t).1 : Nat), .list (va t).2]
theorem len1 (a : D) : ([a] : List D).length ≤ bigN := by show 1 ≤ 100000; omega
theorem len2 (a b : D) : ([a, b] : List D).length ≤ bigN := by show 2 ≤ 100000; omega
theorem va_apps (t : Tr) : ∀ xs : List Tr, va (t.apps xs) = ((va t).1, (va t).2 ++ xs.map valD) := by
 intro xs
 induction xs generalizing t with
 | nil => simp [Tr.apps_nil]
 | cons x xs ih => rw [Tr.apps_cons, ih]; simp [va, valD]
theorem va_lf (h : Nat) (xs : List Tr) : va ((Tr.lf h).apps xs) = (h, xs.map valD) := by rw [va_apps]; simp [va]
theorem row_loop {j : Nat} {s0 : Slot} : ∀ (xs : List Tr) (acc : List Int) (s2 : Slot), (∀ x ∈ xs, g_law_row j [valD x] = some (.list ((row x).map D.int))) → acc.length + (rows xs).length ≤ 1000 →
   ∃ s2', fFor (gName 2) (fSeq (fAsg 1 (fBin .Add (fv_ 1) (fCall (g_law_row j) (fC_ (fv_ 2) fnl)))) fBNil) (xs.map valD) [s0, .val (.list (acc.map D.int)), s2] = some (.next, [s0, .val (.list ((acc ++ rows xs).map D.int)), s2'])
 | [], acc, s2, _, _ => ⟨s2, by simp [fFor, rows]⟩
 | x :: xs, acc, s2, h, hl => by
   rw [rows_cons, List.length_append] at hl
   obtain ⟨s2', ih⟩ := row_loop xs (acc ++ row x) (.val (valD x)) (fun y hy => h y (List.mem_cons_of_mem _ hy)) (by rw [List.length_append]; omega)
   refine ⟨s2', ?_⟩
   rw [List.map_cons]
   refine e_for (σ1 := [s0, .val (.list (acc.map D.int)), .val (valD x)]) (σ2 := [s0, .val (.list ((acc ++ row x).map D.int)), .val (valD x)]) rfl (e_seq ((e_asg (e_bin (e_var rfl) (e_call (e_cons (e_var rfl) e_lnil) (h x (by simp))) (addL (by omega)))).trans rfl) e_nil) ?_
   rw [ih, rows_cons, List.append_assoc]
theorem rep_minus (n : Nat) : (List.replicate n ([D.int (-1)])).flatten = (List.replicate n (-1 : Int)).map D.int := by
 induction n with
 | zero => rfl
 | succ n ih => rw [List.replicate_succ, List.flatten_cons, ih, List.replicate_succ]; rfl
theorem g_row_eq (n : Nat) : ∀ (t : Tr) (j : Nat), size t ≤ n → n ≤ j → (row t).length ≤ 900 → g_law_row j [valD t] = some (.list ((row t).map D.int)) := by
 induction n with
 | zero => intro t j h; cases (t) <;> simp [size] at h
 | succ n ih =>
   intro t j hs hj hl
   obtain ⟨j, rfl⟩ : ∃ j', j = j' + 1 := ⟨j - 1, by omega⟩
   obtain ⟨xs, e, hx⟩ := as_apps t
   generalize t.head = h at e
   have er : row t = List.replicate xs.length (-1) ++ [(h : Int)] ++ rows xs := by rw [e, row_apps]; rfl
   have ev : valD t = .tup [.int (h : Nat), .list (xs.map valD)] := by
     show D.tup [.int ((va t).1 : Nat), .list (va t).2] = _
     rw [e, va_lf]
   have hxl : ∀ x ∈ xs, (row x).length ≤ (rows xs).length := fun x hx => by
     obtain ⟨A, B, rfl⟩ := List.append_of_mem hx
     rw [rows_append, rows_cons]; simp only [List.length_append]; omega
   rw [er] at hl
   simp only [List.length_append, List.length_replicate, List.length_cons, List.length_nil] at hl
   obtain ⟨s2, hlp⟩ := row_loop (j := j) (s0 := .val (valD t)) xs (List.replicate xs.length (-1) ++ [(h : Int)]) .non (fun x hxm => ih x j (by have := hx x hxm; omega) (by omega) (by have := hxl x hxm; omega)) (by simp only [List.length_append, List.length_replicate, List.length_cons, List.length_nil]; omega)
   have hsub1 : subD (valD t) (.int 1) = some (.list (xs.map valD)) := by rw [ev]; rfl
   have hsub0 : subD (valD t) (.int 0) = some (.int (h : Nat)) := by rw [ev]; rfl
   have hgl : gLen [.list (xs.map valD)] = some (.int (xs.length : Nat)) := by
     have : (xs.map valD).length ≤ bigN := by rw [List.length_map]; unfold bigN; omega
     show (if (xs.map valD).length ≤ bigN then some (D.int ((xs.map valD).length : Nat)) else none) = _
     rw [if_pos this, List.length_map]
   have hmul : binD .Mult (.list [.int (-1)]) (.int (xs.length : Nat)) = some (.list ((List.replicate xs.length (-1)).map D.int)) := by
     have : (0 : Int) ≤ (xs.length : Nat) ∧ ((xs.length : Nat) : Int) ≤ 1000 ∧ ([D.int (-1)] : List D).length ≤ 100 := ⟨by omega, by omega, by decide⟩
     refine (if_pos (e := none) this).trans ?_
     rw [Int.toNat_natCast, rep_minus]
   have hb1 := len1 (D.int (-1))
   have hb2 := len1 (D.int (h : Nat))
   have st1 : fAsg 1 (fBin .Add (fBin .Mult (fLst (fC_ (fNeg (kq (.int 1))) fnl)) (fCall gLen (fC_ (fSub (fv_ 0) (kq (.int 1))) fnl))) (fLst (fC_ (fSub (fv_ 0) (kq (.int 0))) fnl))) [.val (valD t), .non, .non] = some (.next, [.val (valD t), .val (.list ((List.replicate xs.length (-1) ++ [(h : Int)]).map D.int)), .non]) :=
     (e_asg (e_bin (e_bin (e_lst (e_cons (e_neg e_lit) e_lnil) hb1) (e_call (e_cons (e_sub (e_var rfl) e_lit hsub1) e_lnil) hgl) hmul) (e_lst (e_cons (e_sub (e_var rfl) e_lit hsub0) e_lnil) hb2) (addL (ys := [(h : Int)]) (by simp; omega)))).trans rfl
   have hit : fItL (fun _ => true) (fSub (fv_ 0) (kq (.int 1))) [.val (valD t), .val (.list ((List.replicate xs.length (-1) ++ [(h : Int)]).map D.int)), .non] = some (xs.map valD, [.val (valD t), .val (.list ((List.replicate xs.length (-1) ++ [(h : Int)]).map D.int)), .non]) := by
     have := e_sub (g := fun σ => some (.int 1, σ)) (e_var (σ := [.val (valD t), .val (.list ((List.replicate xs.length (-1) ++ [(h : Int)]).map D.int)), .non]) (i := 0) rfl) e_lit hsub1
     simp only [fItL, this, Option.bind_some, if_true]
   have main : ∃ σ1, f_law_row (g_law_row j) [.val (valD t), .non, .non] = some (.ret (.list ((row t).map D.int)), σ1) := by
     rw [er]
     exact ⟨_, e_seq st1 (e_seq (e_fors hit hlp) (e_seqR (e_ret (e_var rfl))))⟩
   obtain ⟨σ1, h1⟩ := main
   exact e_run (f := f_law_row (g_law_row j)) rfl rfl h1
section
variable {σ σ1 : LS} {i n : Nat} {d : D} {ds xs ys : List D} {io : Bool}
theorem e_io {g : List D → List D → Option (D × List D)} {h : FnL} (h1 : h σ = some (ds, σ1)) (h2 : ownLAt i σ1 = some (io, xs)) (h3 : g ds xs = some (d, ys)) : fIO i g h σ = some (d, σ1.set i (.ownL io ys)) := by
 simp only [fIO, h1, Option.bind_some, h2, h3, Option.map_some]
theorem e_last {l : Bool × List D} (h : ownLAt i σ = some l) : fLast i σ = some ([], σ) := by simp only [fLast, h, Option.map_some]
theorem e_runL {m : Nat} {f : FnF} {τ : LS} (hl : ds.length = n) (ht : putSl false (.ownL true xs) ds m = τ) (h : f τ = some (.ret d, σ1)) (h2 : σ1.getD n .non = .ownL true ys) : runL n m f ds xs = some (d, ys) := by
 unfold runL; rw [if_pos hl, ht, h]; simp only [Option.bind_some, retD, h2]
end
noncomputable def NF (ru : Ru) (t : Tr) : Prop := ∀ i w, ¬ Red ru i t w
structure RuD (X : Dr) (R : List (Int × D)) : Prop where
 some' : ∀ i k, X.op i = some k → atI R (i : Nat) = some (.tup [.int (ar (X.nm k) : Nat), (X.s k).d, .str (X.rt k)])
 none' : ∀ i, X.op i = none → atI R (i : Nat) = none
theorem sq_l {ru : Ru} {A : List Nat} {l l' r : Tr} (h : Sq (RedN ru) A l l') (hn : (Tr.ap l r).leaves.Nodup) : Sq (RedN ru) A (.ap l r) (.ap l' r) := by
 induction h with
 | nil => exact .nil
 | cons hr _ ih => exact .cons ⟨hn, .l hr.2⟩ (ih ((Red.l hr.2).nd hn))
theorem sq_r {ru : Ru} {A : List Nat} {l r r' : Tr} (h : Sq (RedN ru) A r r') (hn : (Tr.ap l r).leaves.Nodup) : Sq (RedN ru) A (.ap l r) (.ap l r') := by
 induction h with
 | nil => exact .nil
 | cons hr _ ih => exact .cons ⟨hn, .r hr.2⟩ (ih ((Red.r hr.2).nd hn))
theorem sh_size (n : Nat) : size (sh n) ≤ 5 := by
 have key : ∀ r, r < 15 → size (shL.getD r (.lf 0)) ≤ 5 := by decide +kernel
 exact key (n % 15) (Nat.mod_lt _ dc)
theorem nf_arg {ru : Ru} {h : Nat} {xs : List Tr} {x : Tr} (hx : x ∈ xs) (hn : NF ru ((Tr.lf h).apps xs)) : NF ru x := by
 intro i w hr
 refine Xee (List.append_of_mem hx) fun A B q2 => ?_; subst q2
 exact hn i _ (Red.arg hr)
theorem fl_eq {X : Dr} {R : List (Int × D)} (HR : RuD X R) : ∀ j : Nat,
   (∀ (s : Tr) (ps : List Tr) (dn : List D), (∀ k ∈ s.leaves, k < ps.length) → ps.length ≤ 900 → (Tr.fill ps s).leaves.Nodup → (Tr.fill ps s).leaves.length ≤ 7 → (∀ p ∈ ps, NF X.ru p) → size s + 7 * (Tr.fill ps s).leaves.length ≤ j → dn.length + (Tr.fill ps s).leaves.length ≤ 900 →
     ∃ A u, (g_FL j).1 [s.d, .list (ps.map valD), .dI R] dn = some (valD u, dn ++ A.map fun i : Nat => D.int (i : Nat)) ∧ Sq (RedN X.ru) A (Tr.fill ps s) u ∧ NF X.ru u) ∧
   (∀ (l r : Tr) (dn : List D), (Tr.ap l r).leaves.Nodup → (Tr.ap l r).leaves.length ≤ 7 → NF X.ru l → NF X.ru r → 7 * (Tr.ap l r).leaves.length ≤ j → dn.length + (Tr.ap l r).leaves.length ≤ 900 →
     ∃ A u, (g_FL j).2 [valD l, valD r, .dI R] dn = some (valD u, dn ++ A.map fun i : Nat => D.int (i : Nat)) ∧ Sq (RedN X.ru) A (.ap l r) u ∧ NF X.ru u) := by
 intro j
 induction j with
 | zero =>
   refine ⟨fun s ps dn _ _ _ _ _ h => ?_, fun l r dn _ _ _ _ h => ?_⟩
   · haveI : 0 < size s := by cases s <;> simp [size]
     lia
   · haveI : 0 < (Tr.ap l r).leaves.length := List.length_pos_of_mem Tr.head_mem
     omega
 | succ j ih =>
   refine Xa ih fun ihF ihL => ?_
   refine ⟨fun s ps dn hk hpl hnd h7 hps hj hdn => ?_, fun l r dn hnd h7 hl hr hj hdn => ?_⟩
   · -- filled
     show ∃ A u, runL 3 0 (f_law_filled (g_FL j).1 (g_FL j).2) [s.d, .list (ps.map valD), .dI R] dn = _ ∧ _
     cases s with
     | lf i =>
       have hi := hk i (by simp [Tr.leaves])
       haveI hfill : Tr.fill ps (.lf i) = ps[i] := by simp [Tr.fill, List.getD, hi]
       refine Ieeaa ([]) (ps[i]) ?_ ?_ (hps _ (List.getElem_mem hi))
       · haveI hsub : subD (.list (ps.map valD)) (.int (i : Nat)) = some (valD ps[i]) := by
           have h1 : (0 : Int) ≤ ((i : Nat) : Int) ∧ ((i : Nat) : Int) < 1000 := by lia
           refine (if_pos (e := none) h1).trans ?_
           rw [Int.toNat_natCast]
           simp [hi]
         haveI t0 : fTru (fCall gIsTup (fC_ (fv_ 0) (fC_ (kq (.typ "tuple")) fnl))) [.val (.int (i : Nat)), .val (.list (ps.map valD)), .val (.dI R), .ownL true dn] = some (false, [.val (.int (i : Nat)), .val (.list (ps.map valD)), .val (.dI R), .ownL true dn]) := by kernel_rfl
         haveI hf : f_law_filled (g_FL j).1 (g_FL j).2 [.val (.int (i : Nat)), .val (.list (ps.map valD)), .val (.dI R), .ownL true dn] = some (.ret (valD ps[i]), [.val (.int (i : Nat)), .val (.list (ps.map valD)), .val (.dI R), .ownL true dn]) :=
           e_seq (e_ifF t0 e_nil) (e_seqR (e_ret (e_sub (e_var rfl) (e_var rfl) hsub)))
         haveI := e_runL (n := 3) (m := 0) (ds := [.int (i : Nat), .list (ps.map valD), .dI R]) rfl rfl hf rfl
         rw [List.map_nil, List.append_nil]; exact this
       · rw [hfill]; exact .nil
     | ap a b =>
       simp only [Tr.fill] at hnd h7 hj hdn ⊢
       simp only [size] at hj
       have hll : (Tr.ap (Tr.fill ps a) (Tr.fill ps b)).leaves.length = (Tr.fill ps a).leaves.length + (Tr.fill ps b).leaves.length := by simp [Tr.leaves]
       rw [hll] at h7 hj hdn
       refine Xeeaa (ihF a ps dn (fun k h => hk k (by simp [Tr.leaves, h])) hpl (nd_l hnd) (by omega) hps (by omega) (by omega)) fun A1 u1 e1 q1 n1 => ?_
       have c1 := (sq_leaves q1).length_eq
       rw [List.length_append] at c1
       refine Xeeaa (ihF b ps (dn ++ A1.map fun i : Nat => D.int (i : Nat)) (fun k h => hk k (by simp [Tr.leaves, h])) hpl (nd_r hnd) (by omega) hps (by omega) (by rw [List.length_append, List.length_map]; omega)) fun A2 u2 e2 q2 n2 => ?_
       have c2 := (sq_leaves q2).length_eq
       rw [List.length_append] at c2
       have s1 := sq_l (r := Tr.fill ps b) q1 hnd
       have hnd1 := sq_nd s1 hnd
       have s2 := sq_r (l := u1) q2 hnd1
       have hnd2 := sq_nd s2 hnd1
       have hll2 : (Tr.ap u1 u2).leaves.length = u1.leaves.length + u2.leaves.length := by simp [Tr.leaves]
       refine Xeeaa (ihL u1 u2 (dn ++ (A1.map fun i : Nat => D.int (i : Nat)) ++ A2.map fun i : Nat => D.int (i : Nat)) hnd2 (by rw [hll2]; omega) n1 n2 (by rw [hll2]; omega) (by rw [hll2]; simp only [List.length_append, List.length_map]; omega)) fun A3 u3 e3 q3 n3 => ?_
       refine Ieeaa (A1 ++ (A2 ++ A3)) u3 ?_ (s1.append (s2.append q3)) n3
       haveI t0 : fTru (fCall gIsTup (fC_ (fv_ 0) (fC_ (kq (.typ "tuple")) fnl))) [.val (.tup [a.d, b.d]), .val (.list (ps.map valD)), .val (.dI R), .ownL true dn] = some (true, [.val (.tup [a.d, b.d]), .val (.list (ps.map valD)), .val (.dI R), .ownL true dn]) := by kernel_rfl
       haveI sa : subD (.tup [a.d, b.d]) (.int 0) = some a.d := rfl
       haveI sb : subD (.tup [a.d, b.d]) (.int 1) = some b.d := rfl
       haveI f1 : fIO 3 (g_FL j).1 (fC_ (fSub (fv_ 0) (kq (.int 0))) (fC_ (fv_ 1) (fC_ (fv_ 2) (fLast 3)))) [.val (.tup [a.d, b.d]), .val (.list (ps.map valD)), .val (.dI R), .ownL true dn] = some (valD u1, [.val (.tup [a.d, b.d]), .val (.list (ps.map valD)), .val (.dI R), .ownL true (dn ++ A1.map fun i : Nat => D.int (i : Nat))]) :=
         (e_io (e_cons (e_sub (e_var rfl) e_lit sa) (e_cons (e_var rfl) (e_cons (e_var rfl) (e_last rfl)))) rfl e1).trans rfl
       haveI f2 : fIO 3 (g_FL j).1 (fC_ (fSub (fv_ 0) (kq (.int 1))) (fC_ (fv_ 1) (fC_ (fv_ 2) (fLast 3)))) [.val (.tup [a.d, b.d]), .val (.list (ps.map valD)), .val (.dI R), .ownL true (dn ++ A1.map fun i : Nat => D.int (i : Nat))] = some (valD u2, [.val (.tup [a.d, b.d]), .val (.list (ps.map valD)), .val (.dI R), .ownL true (dn ++ (A1.map fun i : Nat => D.int (i : Nat)) ++ A2.map fun i : Nat => D.int (i : Nat))]) :=
         (e_io (e_cons (e_sub (e_var rfl) e_lit sb) (e_cons (e_var rfl) (e_cons (e_var rfl) (e_last rfl)))) rfl e2).trans rfl
       haveI f3 : fIO 3 (g_FL j).2 (fC_ (fIO 3 (g_FL j).1 (fC_ (fSub (fv_ 0) (kq (.int 0))) (fC_ (fv_ 1) (fC_ (fv_ 2) (fLast 3))))) (fC_ (fIO 3 (g_FL j).1 (fC_ (fSub (fv_ 0) (kq (.int 1))) (fC_ (fv_ 1) (fC_ (fv_ 2) (fLast 3))))) (fC_ (fv_ 2) (fLast 3)))) [.val (.tup [a.d, b.d]), .val (.list (ps.map valD)), .val (.dI R), .ownL true dn] = some (valD u3, [.val (.tup [a.d, b.d]), .val (.list (ps.map valD)), .val (.dI R), .ownL true (dn ++ (A1.map fun i : Nat => D.int (i : Nat)) ++ (A2.map fun i : Nat => D.int (i : Nat)) ++ A3.map fun i : Nat => D.int (i : Nat))]) :=
         (e_io (e_cons f1 (e_cons f2 (e_cons (e_var rfl) (e_last rfl)))) rfl e3).trans rfl
       haveI hf : f_law_filled (g_FL j).1 (g_FL j).2 [.val (.tup [a.d, b.d]), .val (.list (ps.map valD)), .val (.dI R), .ownL true dn] = some (.ret (valD u3), [.val (.tup [a.d, b.d]), .val (.list (ps.map valD)), .val (.dI R), .ownL true (dn ++ (A1.map fun i : Nat => D.int (i : Nat)) ++ (A2.map fun i : Nat => D.int (i : Nat)) ++ A3.map fun i : Nat => D.int (i : Nat))]) :=
         e_seqR (e_ifT t0 (e_seqR (e_ret f3)))
       haveI := e_runL (n := 3) (m := 0) (ds := [.tup [a.d, b.d], .list (ps.map valD), .dI R]) rfl rfl hf rfl
       rw [List.map_append, List.map_append]
       simp only [List.append_assoc] at this ⊢
       exact this
   · -- laid
     show ∃ A u, runL 3 2 (f_law_laid (g_FL j).1) [valD l, valD r, .dI R] dn = _ ∧ _
     refine Xea (as_apps l) fun xs el _ => ?_
     generalize l.head = h at el
     have evl : valD l = .tup [.int (h : Nat), .list (xs.map valD)] := by
       show D.tup [.int ((va l).1 : Nat), .list (va l).2] = _
       rw [el, va_lf]
     have et : Tr.ap l r = (Tr.lf h).apps (xs ++ [r]) := by rw [Tr.apps_snoc, ← el]
     have hxl : xs.length + 2 ≤ 8 := by
       have : (Tr.ap l r).leaves.length = l.leaves.length + r.leaves.length := by simp [Tr.leaves]
       have h2 : xs.length + 1 ≤ l.leaves.length := by
         rw [el, Tr.leaves_apps, List.length_append]
         have : ∀ ys : List Tr, ys.length ≤ ((ys.map Tr.leaves).flatten).length := by
           intro ys
           induction ys with
           | nil => simp
           | cons y ys ih =>
             have : 0 < y.leaves.length := List.length_pos_of_mem Tr.head_mem
             simp only [List.map_cons, List.flatten_cons, List.length_append, List.length_cons]; omega
         have := this xs
         have h1 : (Tr.lf h).leaves.length = 1 := rfl
         omega
       have : 0 < r.leaves.length := List.length_pos_of_mem Tr.head_mem
       lia
     haveI hs0 : subD (valD l) (.int 0) = some (.int (h : Nat)) := by rw [evl]; rfl
     haveI hs1 : subD (valD l) (.int 1) = some (.list (xs.map valD)) := by rw [evl]; rfl
     have hadd : binD .Add (.list (xs.map valD)) (.list [valD r]) = some (.list ((xs ++ [r]).map valD)) := by
       haveI : (xs.map valD).length + ([valD r] : List D).length ≤ bigN := by rw [List.length_map]; unfold bigN; simp; omega
       refine (if_pos (e := none) this).trans ?_
       simp
     haveI hb1 := len1 (valD r)
     haveI hb2 := len2
     have hgl : gLen [.list ((xs ++ [r]).map valD)] = some (.int ((xs.length + 1 : Nat) : Int)) := by
       haveI : ((xs ++ [r]).map valD).length ≤ bigN := by simp; unfold bigN; omega
       show (if ((xs ++ [r]).map valD).length ≤ bigN then some (D.int (((xs ++ [r]).map valD).length : Nat)) else none) = _
       rw [if_pos this]; simp
     have st1 : fAsg 4 (fSub (fv_ 0) (kq (.int 0))) [.val (valD l), .val (valD r), .val (.dI R), .ownL true dn, .non, .non] = some (.next, [.val (valD l), .val (valD r), .val (.dI R), .ownL true dn, .val (.int (h : Nat)), .non]) := (e_asg (e_sub (e_var rfl) e_lit hs0)).trans rfl
     have st2 : fAsg 5 (fBin .Add (fSub (fv_ 0) (kq (.int 1))) (fLst (fC_ (fv_ 1) fnl))) [.val (valD l), .val (valD r), .val (.dI R), .ownL true dn, .val (.int (h : Nat)), .non] = some (.next, [.val (valD l), .val (valD r), .val (.dI R), .ownL true dn, .val (.int (h : Nat)), .val (.list ((xs ++ [r]).map valD))]) :=
       (e_asg (e_bin (e_sub (e_var rfl) e_lit hs1) (e_lst (e_cons (e_var rfl) e_lnil) hb1) hadd)).trans rfl
     have hval : valD (.ap l r) = .tup [.int (h : Nat), .list ((xs ++ [r]).map valD)] := by
       show D.tup [.int ((va (.ap l r)).1 : Nat), .list (va (.ap l r)).2] = _
       rw [et, va_lf]
     have stay : (∀ i w, ¬ Red X.ru i (.ap l r) w) → fOr (fCmp (cmpD .NotIn) (fv_ 4) (fv_ 2)) (fOr (fCmp (cmpD .Gt) (fSub (fSub (fv_ 2) (fv_ 4)) (kq (.int 0))) (fCall gLen (fC_ (fv_ 5) fnl))) fOrN) [.val (valD l), .val (valD r), .val (.dI R), .ownL true dn, .val (.int (h : Nat)), .val (.list ((xs ++ [r]).map valD))] = some (true, [.val (valD l), .val (valD r), .val (.dI R), .ownL true dn, .val (.int (h : Nat)), .val (.list ((xs ++ [r]).map valD))]) →
         ∃ A u, runL 3 2 (f_law_laid (g_FL j).1) [valD l, valD r, .dI R] dn = some (valD u, dn ++ A.map fun i : Nat => D.int (i : Nat)) ∧ Sq (RedN X.ru) A (.ap l r) u ∧ NF X.ru u := fun hnf ht => by
       refine Ieeaa ([]) (.ap l r) ?_ .nil hnf
       haveI hf : f_law_laid (g_FL j).1 [.val (valD l), .val (valD r), .val (.dI R), .ownL true dn, .non, .non] = some (.ret (.tup [.int (h : Nat), .list ((xs ++ [r]).map valD)]), [.val (valD l), .val (valD r), .val (.dI R), .ownL true dn, .val (.int (h : Nat)), .val (.list ((xs ++ [r]).map valD))]) :=
         e_seq st1 (e_seq st2 (e_seqR (e_ifT ht (e_seqR (e_ret (e_tup (e_cons (e_var rfl) (e_cons (e_var rfl) e_lnil)) (hb2 _ _)))))))
       haveI := e_runL (n := 3) (m := 2) (ds := [valD l, valD r, .dI R]) rfl rfl hf rfl
       rw [List.map_nil, List.append_nil, hval]; exact this
     have onlyHd : ∀ i w, Red X.ru i (.ap l r) w → i = h ∧ X.ru.n h = xs.length + 1 := fun i w hw => by
       generalize eg : Tr.ap l r = t at hw
       cases hw with
       | @hd ys h0 hlen =>
         have e2 : (Tr.lf h).apps (xs ++ [r]) = (Tr.lf i).apps ys := by rw [← et, eg]
         have hh : h = i := by have := congrArg Tr.head e2; rw [Tr.head_apps, Tr.head_apps] at this; exact this
         subst hh
         have hva := congrArg (fun t => ((va t).2).length) e2
         simp only [va_lf, List.length_map, List.length_append, List.length_cons, List.length_nil] at hva
         exact ⟨rfl, by lia⟩
       | @l l1 l1' r1 h1 => cases eg; exact absurd h1 (hl _ _)
       | @r l1 r1 r1' h1 => cases eg; exact absurd h1 (hr _ _)
     cases hop : X.op h with
     | none =>
       haveI hat := HR.none' h hop
       have hn0 : X.ru.n h = 0 := by simp only [Dr.ru, hop]
       refine stay (fun i w hw => by have := (onlyHd i w hw).2; lia) (e_orT (e_cmp (e_var rfl) (e_var rfl) (by show some (!(atI R (h : Nat)).isSome) = _; rw [hat]; rfl)))
     | some k =>
       haveI hat := HR.some' h k hop
       have hn0 : X.ru.n h = ar (X.nm k) := by simp only [Dr.ru, hop]
       have hin : cmpD .NotIn (.int (h : Nat)) (.dI R) = some false := by show some (!(atI R (h : Nat)).isSome) = _; rw [hat]; rfl
       haveI hsR : subD (.dI R) (.int (h : Nat)) = some (.tup [.int (ar (X.nm k) : Nat), (X.s k).d, .str (X.rt k)]) := hat
       haveI ha0 : subD (.tup [.int (ar (X.nm k) : Nat), (X.s k).d, .str (X.rt k)]) (.int 0) = some (.int (ar (X.nm k) : Nat)) := rfl
       haveI ha1 : subD (.tup [.int (ar (X.nm k) : Nat), (X.s k).d, .str (X.rt k)]) (.int 1) = some (X.s k).d := rfl
       have hcmp : fCmp (cmpD .Gt) (fSub (fSub (fv_ 2) (fv_ 4)) (kq (.int 0))) (fCall gLen (fC_ (fv_ 5) fnl)) [.val (valD l), .val (valD r), .val (.dI R), .ownL true dn, .val (.int (h : Nat)), .val (.list ((xs ++ [r]).map valD))] = some (decide (((ar (X.nm k) : Nat) : Int) > ((xs.length + 1 : Nat) : Int)), [.val (valD l), .val (valD r), .val (.dI R), .ownL true dn, .val (.int (h : Nat)), .val (.list ((xs ++ [r]).map valD))]) :=
         e_cmp (e_sub (e_sub (e_var rfl) (e_var rfl) hsR) e_lit ha0) (e_call (e_cons (e_var rfl) e_lnil) hgl) cmpGt
       by_cases hle : ar (X.nm k) ≤ xs.length + 1
       · -- the step
         rw [decide_eq_false (by omega)] at hcmp
         have hxn : xs.length < ar (X.nm k) := by
           rcases Nat.lt_or_ge xs.length (ar (X.nm k)) with q | q
           · exact q
           · exfalso
             have hpos := ar_pos (X.nm k)
             rw [el, ← List.take_append_drop (ar (X.nm k)) xs, Tr.apps_append] at hl
             exact hl h _ (Red.apps (.hd (by omega) (by rw [List.length_take]; lia)) _)
         have hpl : (xs ++ [r]).length = X.ru.n h := by simp; lia
         haveI hS : X.ru.S h = X.s k := by simp only [Dr.ru, hop]
         have hred : Red X.ru h (.ap l r) (Tr.fill (xs ++ [r]) (X.s k)) := by
           rw [et, ← hS]
           exact .hd (by rw [hn0]; exact ar_pos _) hpl
         have hc := hred.leaves.length_eq
         rw [List.length_cons] at hc
         have hps : ∀ p ∈ xs ++ [r], NF X.ru p := fun p hp => by
           rcases List.mem_append.mp hp with hp | hp
           · exact nf_arg hp (el ▸ hl)
           · simp at hp; subst hp; exact hr
         refine Xeeaa (ihF (X.s k) (xs ++ [r]) (dn ++ [.int (h : Nat)]) (fun m hm => by rw [hpl, hn0]; exact List.mem_range.mp ((sh_lin (X.nm k)).subset hm)) (by simp; lia) (hred.nd hnd) (by omega) hps (by have := sh_size (X.nm k); unfold Dr.s at hc ⊢; lia) (by simp; omega)) fun A u e1 q1 n1 => ?_
         refine Ieeaa (h :: A) u ?_ (.cons ⟨hnd, hred⟩ q1) n1
         haveI st3 : fAppend 3 (fv_ 4) [.val (valD l), .val (valD r), .val (.dI R), .ownL true dn, .val (.int (h : Nat)), .val (.list ((xs ++ [r]).map valD))] = some (.next, [.val (valD l), .val (valD r), .val (.dI R), .ownL true (dn ++ [.int (h : Nat)]), .val (.int (h : Nat)), .val (.list ((xs ++ [r]).map valD))]) :=
           (e_app ⟨_, _, rfl⟩ (e_var rfl) rfl (by unfold bigN; lia)).trans rfl
         haveI f1 : fIO 3 (g_FL j).1 (fC_ (fSub (fSub (fv_ 2) (fv_ 4)) (kq (.int 1))) (fC_ (fv_ 5) (fC_ (fv_ 2) (fLast 3)))) [.val (valD l), .val (valD r), .val (.dI R), .ownL true (dn ++ [.int (h : Nat)]), .val (.int (h : Nat)), .val (.list ((xs ++ [r]).map valD))] =
             some (valD u, [.val (valD l), .val (valD r), .val (.dI R), .ownL true (dn ++ [.int (h : Nat)] ++ A.map fun i : Nat => D.int (i : Nat)), .val (.int (h : Nat)), .val (.list ((xs ++ [r]).map valD))]) :=
           (e_io (e_cons (e_sub (e_sub (e_var rfl) (e_var rfl) hsR) e_lit ha1) (e_cons (e_var rfl) (e_cons (e_var rfl) (e_last rfl)))) rfl e1).trans rfl
         haveI hf : f_law_laid (g_FL j).1 [.val (valD l), .val (valD r), .val (.dI R), .ownL true dn, .non, .non] = some (.ret (valD u), [.val (valD l), .val (valD r), .val (.dI R), .ownL true (dn ++ [.int (h : Nat)] ++ A.map fun i : Nat => D.int (i : Nat)), .val (.int (h : Nat)), .val (.list ((xs ++ [r]).map valD))]) :=
           e_seq st1 (e_seq st2 (e_seq (e_ifF (e_orF (e_cmp (e_var rfl) (e_var rfl) hin) (e_orF hcmp rfl)) e_nil) (e_seq st3 (e_seqR (e_ret f1)))))
         haveI := e_runL (n := 3) (m := 2) (ds := [valD l, valD r, .dI R]) rfl rfl hf rfl
         rw [List.map_cons, this]
         simp
       · rw [decide_eq_true (by omega)] at hcmp
         exact stay (fun i w hw => by have := (onlyHd i w hw).2; omega) (e_orF (e_cmp (e_var rfl) (e_var rfl) hin) (e_orT hcmp))
noncomputable def nB : FnF := fSeq (fAugSub 1 .Add (fBin .Mod (fv_ 2) (kq (.int 5))) (fBin .Mod (fv_ 3) (fBin .Pow (kq (.int 10)) (kq (.int 6))))) fBNil
theorem n_turn {s0 : Slot} {ns : List Nat} {k : Nat} {x : Int} {B : Nat} (hl : ns.length = 5) (hB : ∀ n ∈ ns, n ≤ B) : ∃ ns' : List Nat, ns'.length = 5 ∧ (∀ n ∈ ns', n ≤ B + 1000000) ∧
   nB [s0, .ownL false (ns.map fun n : Nat => D.int (n : Nat)), .val (.int (k : Nat)), .val (.int x)] = some (.next, [s0, .ownL false (ns'.map fun n : Nat => D.int (n : Nat)), .val (.int (k : Nat)), .val (.int x)]) := by
 haveI hj5 : k % 5 < 5 := Nat.mod_lt _ dc
 have hjl : k % 5 < ns.length := by lia
 obtain ⟨r, hr⟩ : ∃ r : Nat, Int.fmod x 1000000 = (r : Int) := ⟨(Int.fmod x 1000000).toNat, (Int.toNat_of_nonneg (Int.fmod_nonneg_of_pos x dc)).symm⟩
 haveI hrlt : r < 1000000 := by have := Int.fmod_lt_of_pos x (show (0 : Int) < 1000000 by decide); omega
 refine Ieaa (ns.set (k % 5) (ns[k % 5] + r)) (by simpa using hl) ?_ ?_
 · intro n hn
   rcases List.mem_or_eq_of_mem_set hn with h | h
   · have := hB n h; lia
   · have := hB _ (List.getElem_mem hjl); omega
 · haveI hm5 : binD .Mod (.int (k : Nat)) (.int 5) = some (.int ((k % 5 : Nat) : Int)) := by
     haveI : (5 : Int) ≠ 0 := by decide
     refine (if_pos (e := none) this).trans ?_
     rw [← fmodN k 5]; rfl
   haveI hp : binD .Pow (.int 10) (.int 6) = some (.int 1000000) := by
     have : (0 : Int) ≤ 6 ∧ (6 : Int) ≤ 1000 ∧ okI 10 := by decide
     exact (if_pos (e := none) this).trans rfl
   haveI hmx : binD .Mod (.int x) (.int 1000000) = some (.int (r : Nat)) := by
     have : (1000000 : Int) ≠ 0 := by decide
     refine (if_pos (e := none) this).trans ?_
     rw [hr]
   haveI f1 : fBin .Mod (fv_ 2) (kq (.int 5)) [s0, .ownL false (ns.map fun n : Nat => D.int (n : Nat)), .val (.int (k : Nat)), .val (.int x)] = some (.int ((k % 5 : Nat) : Int), [s0, .ownL false (ns.map fun n : Nat => D.int (n : Nat)), .val (.int (k : Nat)), .val (.int x)]) := e_bin (e_var rfl) e_lit hm5
   haveI f2 : fBin .Mod (fv_ 3) (fBin .Pow (kq (.int 10)) (kq (.int 6))) [s0, .ownL false (ns.map fun n : Nat => D.int (n : Nat)), .val (.int (k : Nat)), .val (.int x)] = some (.int (r : Nat), [s0, .ownL false (ns.map fun n : Nat => D.int (n : Nat)), .val (.int (k : Nat)), .val (.int x)]) := e_bin (e_var rfl) (e_bin e_lit e_lit hp) hmx
   haveI o1 : ownLAt 1 [s0, .ownL false (ns.map fun n : Nat => D.int (n : Nat)), .val (.int (k : Nat)), .val (.int x)] = some (false, ns.map fun n : Nat => D.int (n : Nat)) := rfl
   haveI hc : (0 : Int) ≤ ((k % 5 : Nat) : Int) ∧ ((k % 5 : Nat) : Int) < 1000 := c_rng (Nat.lt_trans (Nat.mod_lt _ dc) dc)
   haveI hg : (ns.map fun n : Nat => D.int (n : Nat))[k % 5]? = some (.int (ns[k % 5] : Nat)) := by simp [hjl]
   haveI hlt : k % 5 < (ns.map fun n : Nat => D.int (n : Nat)).length := by simpa using hjl
   haveI hset : (ns.map fun n : Nat => D.int (n : Nat)).set (k % 5) (.int (((ns[k % 5] : Nat) : Int) + (r : Nat))) = (ns.set (k % 5) (ns[k % 5] + r)).map fun n : Nat => D.int (n : Nat) := by
     rw [List.map_set]; rfl
   refine e_seq (σ1 := [s0, .ownL false ((ns.set (k % 5) (ns[k % 5] + r)).map fun n : Nat => D.int (n : Nat)), .val (.int (k : Nat)), .val (.int x)]) ?_ e_nil
   rw [← hset]
   simp only [fAugSub, o1, Option.bind_some, f1, if_pos hc, Int.toNat_natCast, hg, f2, if_pos hlt, augD, intD, Option.map_some]
   rfl
theorem n_loop : ∀ (xs : List Int) (k : Nat) (ns : List Nat) (B : Nat) (s0 s2 s3 : Slot), ns.length = 5 → (∀ n ∈ ns, n ≤ B) → ∃ (ns' : List Nat) (s2' s3' : Slot), ns'.length = 5 ∧ (∀ n ∈ ns', n ≤ B + 1000000 * xs.length) ∧
   fFor (gTup [2, 3]) nB (enumD (xs.map D.int) k) [s0, .ownL false (ns.map fun n : Nat => D.int (n : Nat)), s2, s3] = some (.next, [s0, .ownL false (ns'.map fun n : Nat => D.int (n : Nat)), s2', s3'])
 | [], k, ns, B, s0, s2, s3, hl, hB => ⟨ns, s2, s3, hl, by simpa using hB, rfl⟩
 | x :: xs, k, ns, B, s0, s2, s3, hl, hB => by
   refine Xeaa (n_turn (s0 := s0) (k := k) (x := x) hl hB) fun ns1 l1 b1 h1 => ?_
   refine Xeeeaa (n_loop xs (k + 1) ns1 (B + 1000000) s0 (.val (.int (k : Nat))) (.val (.int x)) l1 b1) fun ns2 t2 t3 l2 b2 h2 => ?_
   refine Ieeeaa ns2 t2 t3 l2 (fun n hn => by have := b2 n hn; simp only [List.length_cons]; lia) ?_
   rw [List.map_cons, enumD_cons]
   exact e_for (σ1 := [s0, .ownL false (ns.map fun n : Nat => D.int (n : Nat)), .val (.int (k : Nat)), .val (.int x)]) rfl h1 h2
theorem numbers_eq {script : List Int} (h : script.length ≤ 63) : ∃ n0 n1 n2 n3 n4 : Nat, n0 < 100000000 ∧ n1 < 100000000 ∧ n2 < 100000000 ∧ n3 < 100000000 ∧ n4 < 100000000 ∧ g_law_numbers [.list (script.map D.int)] = some (.list [.int (n0 : Nat), .int (n1 : Nat), .int (n2 : Nat), .int (n3 : Nat), .int (n4 : Nat)]) := by
 obtain ⟨ns, t2, t3, l, b, hl⟩ := n_loop script 0 [144, 30, 317, 13562, 127] 13562 (.val (.list (script.map D.int))) .non .non rfl dc
 haveI hsl : sliceL (script.map D.int) none (some 63) = script.map D.int := by
   unfold sliceL
   simp only [Option.elim_none, Option.elim_some, List.drop_zero, Nat.sub_zero]
   apply List.take_of_length_le
   rw [List.length_map]
   unfold clipAt
   rw [if_neg dc]
   omega
 haveI hb : (script.map D.int).length ≤ bigN := by rw [List.length_map]; unfold bigN; lia
 haveI he : fEnum (fSlice (fv_ 0) fNoPart (fPart (kq (.int 63)))) [.val (.list (script.map D.int)), .ownL false (([144, 30, 317, 13562, 127] : List Nat).map fun n : Nat => D.int (n : Nat)), .non, .non] = some (enumD (script.map D.int) 0, [.val (.list (script.map D.int)), .ownL false (([144, 30, 317, 13562, 127] : List Nat).map fun n : Nat => D.int (n : Nat)), .non, .non]) := by
   haveI : fSlice (fv_ 0) fNoPart (fPart (kq (.int 63))) [.val (.list (script.map D.int)), .ownL false (([144, 30, 317, 13562, 127] : List Nat).map fun n : Nat => D.int (n : Nat)), .non, .non] = some (.list (sliceL (script.map D.int) none (some 63)), [.val (.list (script.map D.int)), .ownL false (([144, 30, 317, 13562, 127] : List Nat).map fun n : Nat => D.int (n : Nat)), .non, .non]) := e_slice (e_var rfl) e_nopart (e_part e_lit) hb
   rw [hsl] at this
   simp only [fEnum, this, Option.bind_some]; rfl
 haveI st1 : fNew 1 (fC_ (kq (.int 144)) (fC_ (kq (.int 30)) (fC_ (kq (.int 317)) (fC_ (kq (.int 13562)) (fC_ (kq (.int 127)) fnl))))) [.val (.list (script.map D.int)), .non, .non, .non] = some (.next, [.val (.list (script.map D.int)), .ownL false (([144, 30, 317, 13562, 127] : List Nat).map fun n : Nat => D.int (n : Nat)), .non, .non]) := by kernel_rfl
 haveI main : ∃ σ1, f_law_numbers [.val (.list (script.map D.int)), .non, .non, .non] = some (.ret (.list (ns.map fun n : Nat => D.int (n : Nat))), σ1) := ⟨_, e_seq st1 (e_seq (e_fors he hl) (e_seqR (e_ret (e_varL rfl))))⟩
 obtain ⟨σ1, hm⟩ := main
 refine Xeea (lsT l) fun n0 r0 q0 l0 => ?_; subst q0
 refine Xeea (lsT l0) fun n1 r1 q1 l1 => ?_; subst q1
 refine Xeea (lsT l1) fun n2 r2 q2 l2 => ?_; subst q2
 refine Xeea (lsT l2) fun n3 r3 q3 l3 => ?_; subst q3
 refine Xeea (lsT l3) fun n4 r4 q4 l4 => ?_; subst q4
 obtain rfl := List.length_eq_zero_iff.mp l4
 · refine Ieeeeeaaaaa n0 n1 n2 n3 n4 ?_ ?_ ?_ ?_ ?_ ?_
   · have := b n0 (by simp); omega
   · haveI := b n1 (by simp); omega
   · haveI := b n2 (by simp); omega
   · have := b n3 (by simp); omega
   · haveI := b n4 (by simp); omega
   · exact e_run (f := f_law_numbers) rfl rfl hm
noncomputable def wW (nm : Nat → Nat) (o : Option Nat) (i : Nat) : Str := match o with
 | some k => sg (nm k) k
 | none => letL.getD i ""
noncomputable def sgD (nm : Nat → Nat) : D := .list [.str (sg (nm 0) 0), .str (sg (nm 1) 1), .str (sg (nm 2) 2)]
noncomputable def wdB : FnF := fSeq (fAsg 5 (fBin .Mod (fBin .FloorDiv (fv_ 0) (fBin .Pow (kq (.int 4)) (fv_ 4))) (kq (.int 4)))) (fSeq (fIf (fAnd (fCmp (cmpD .Lt) (fv_ 5) (kq (.int 3))) (fAnd (fCmp (cmpD .Gt) (fv_ 3) (kq (.int 0))) fAndN)) (fSeq (fAppend 2 (fSub (fv_ 1) (fv_ 5))) (fSeq (fAug 3 .Sub (kq (.int 1))) fBNil)) (fSeq (fAppend 2 (fSub (kq (.str "aBcDeFg")) (fv_ 4))) fBNil)) fBNil)
theorem let_sub : ∀ k, k < 7 → subD (.str "aBcDeFg") (.int (k : Nat)) = some (.str (letL.getD k "")) := by
 intro k hk
 match k, hk with
 | 0, _ => kernel_rfl
 | 1, _ => kernel_rfl
 | 2, _ => kernel_rfl
 | 3, _ => kernel_rfl
 | 4, _ => kernel_rfl
 | 5, _ => kernel_rfl
 | 6, _ => kernel_rfl
theorem sg_sub (nm : Nat → Nat) : ∀ f, f < 3 → subD (sgD nm) (.int (f : Nat)) = some (.str (sg (nm f) f)) := by
 intro f hf
 match f, hf with
 | 0, _ => rfl
 | 1, _ => rfl
 | 2, _ => rfl
theorem pow4 : ∀ k, k < 7 → binD .Pow (.int 4) (.int (k : Nat)) = some (.int ((4 ^ k : Nat) : Int)) ∧ 4 ^ k ≤ 4096 ∧ 0 < 4 ^ k := by
 intro k hk
 have h1 : (0 : Int) ≤ ((k : Nat) : Int) ∧ ((k : Nat) : Int) ≤ 1000 ∧ okI 4 := ⟨by omega, by omega, by decide⟩
 refine ⟨?_, ?_, Nat.pow_pos dc⟩
 · refine (if_pos (e := none) h1).trans ?_
   rw [Int.toNat_natCast]
   rw [Int.natCast_pow]; rfl
 · have : (4 : Nat) ^ k ≤ 4 ^ 6 := Nat.pow_le_pow_right dc (by omega)
   omega
theorem wd_turn {nm : Nat → Nat} {n k : Nat} {ws : List Str} {left : Int} {s5 : Slot} (hk : k < 7) (hl : ws.length ≤ 7) : ∃ (o : Option Nat) (left' : Int) (s5' : Slot), (∀ f, o = some f → f < 3) ∧
   wdB [.val (.int (n : Nat)), .val (sgD nm), .ownL false (ws.map D.str), .val (.int left), .val (.int (k : Nat)), s5] = some (.next, [.val (.int (n : Nat)), .val (sgD nm), .ownL false ((ws ++ [wW nm o k]).map D.str), .val (.int left'), .val (.int (k : Nat)), s5']) := by
 obtain ⟨p1, p2, p3⟩ := pow4 k hk
 haveI hdiv : binD .FloorDiv (.int (n : Nat)) (.int ((4 ^ k : Nat) : Int)) = some (.int ((n / 4 ^ k : Nat) : Int)) := by
   have : ((4 ^ k : Nat) : Int) ≠ 0 ∧ (((4 ^ k : Nat) : Int)).natAbs < 1073741824 := ⟨by omega, by rw [Int.natAbs_natCast]; omega⟩
   refine (if_pos (e := none) this).trans ?_
   rw [fdivN]
 have hmod : binD .Mod (.int ((n / 4 ^ k : Nat) : Int)) (.int 4) = some (.int ((n / 4 ^ k % 4 : Nat) : Int)) := by
   haveI : (4 : Int) ≠ 0 := by decide
   refine (if_pos (e := none) this).trans ?_
   rw [← fmodN (n / 4 ^ k) 4]; rfl
 generalize hf : n / 4 ^ k % 4 = f at hmod
 have st1 : fAsg 5 (fBin .Mod (fBin .FloorDiv (fv_ 0) (fBin .Pow (kq (.int 4)) (fv_ 4))) (kq (.int 4))) [.val (.int (n : Nat)), .val (sgD nm), .ownL false (ws.map D.str), .val (.int left), .val (.int (k : Nat)), s5] = some (.next, [.val (.int (n : Nat)), .val (sgD nm), .ownL false (ws.map D.str), .val (.int left), .val (.int (k : Nat)), .val (.int (f : Nat))]) :=
   (e_asg (e_bin (e_bin (e_var rfl) (e_bin e_lit (e_var rfl) p1) hdiv) e_lit hmod)).trans rfl
 have hwb : (ws.map D.str).length ≤ bigN := by rw [List.length_map]; unfold bigN; lia
 haveI hm1 : ∀ o, (ws.map D.str) ++ [.str (wW nm o k)] = (ws ++ [wW nm o k]).map D.str := fun o => by simp
 by_cases hc : f < 3 ∧ 0 < left
 · refine Ieeea (some f) (left - 1) (.val (.int (f : Nat))) (fun g e => by cases e; exact hc.1) ?_
   rw [← hm1]
   exact e_seq st1 (e_seq (e_ifT (e_andT (e_cmp (e_var rfl) e_lit (cmpLt.trans (by rw [decide_eq_true (by omega)]))) (e_andT (e_cmp (e_var rfl) e_lit (cmpGt.trans (by rw [decide_eq_true (by omega)]))) rfl))
     (e_seq (e_app ⟨_, _, rfl⟩ (e_sub (e_var rfl) (e_var rfl) (sg_sub nm f hc.1)) rfl hwb) (e_seq ((e_aug rfl e_lit rfl).trans rfl) e_nil))) e_nil)
 · refine Ieeea none left (.val (.int (f : Nat))) (fun g e => by cases e) ?_
   rw [← hm1]
   haveI ht : fAnd (fCmp (cmpD .Lt) (fv_ 5) (kq (.int 3))) (fAnd (fCmp (cmpD .Gt) (fv_ 3) (kq (.int 0))) fAndN) [.val (.int (n : Nat)), .val (sgD nm), .ownL false (ws.map D.str), .val (.int left), .val (.int (k : Nat)), .val (.int (f : Nat))] = some (false, [.val (.int (n : Nat)), .val (sgD nm), .ownL false (ws.map D.str), .val (.int left), .val (.int (k : Nat)), .val (.int (f : Nat))]) := by
     by_cases h3 : f < 3
     · exact e_andT (e_cmp (e_var rfl) e_lit (cmpLt.trans (by rw [decide_eq_true (by omega)]))) (e_andF (e_cmp (e_var rfl) e_lit (cmpGt.trans (by rw [decide_eq_false (by omega)]))))
     · exact e_andF (e_cmp (e_var rfl) e_lit (cmpLt.trans (by rw [decide_eq_false (by omega)])))
   exact e_seq st1 (e_seq (e_ifF ht (e_seq ((e_app ⟨_, _, rfl⟩ (e_sub e_lit (e_var rfl) (let_sub k hk)) rfl hwb).trans rfl) e_nil)) e_nil)
noncomputable def wsOf (nm : Nat → Nat) (os : List (Option Nat)) : List Str := os.zipIdx.map fun p => wW nm p.1 p.2
theorem wsOf_snoc (nm : Nat → Nat) (os : List (Option Nat)) (o : Option Nat) : wsOf nm (os ++ [o]) = wsOf nm os ++ [wW nm o os.length] := by
 unfold wsOf; rw [List.zipIdx_append, List.map_append]; simp
theorem wd_loop {nm : Nat → Nat} {n : Nat} : ∀ (m k : Nat) (os : List (Option Nat)) (left : Int) (s4 s5 : Slot), k + m = 7 → os.length = k → (∀ o ∈ os, ∀ f, o = some f → f < 3) →
   ∃ (os' : List (Option Nat)) (left' : Int) (s4' s5' : Slot), os'.length = 7 ∧ (∀ o ∈ os', ∀ f, o = some f → f < 3) ∧
     fFor (gName 4) wdB ((List.range' k m).map fun i : Nat => D.int (i : Nat)) [.val (.int (n : Nat)), .val (sgD nm), .ownL false ((wsOf nm os).map D.str), .val (.int left), s4, s5] = some (.next, [.val (.int (n : Nat)), .val (sgD nm), .ownL false ((wsOf nm os').map D.str), .val (.int left'), s4', s5'])
 | 0, k, os, left, s4, s5, h, hl, ho => ⟨os, left, s4, s5, by lia, ho, rfl⟩
 | m + 1, k, os, left, s4, s5, h, hl, ho => by
   haveI hwl : (wsOf nm os).length = k := by unfold wsOf; simp [hl]
   refine Xeeea (wd_turn (nm := nm) (n := n) (k := k) (ws := wsOf nm os) (left := left) (s5 := s5) (by omega) (by omega)) fun o left1 t5 ho1 h1 => ?_
   rw [← hl, ← wsOf_snoc, hl] at h1
   obtain ⟨os2, left2, u4, u5, hl2, ho2, h2⟩ := wd_loop m (k + 1) (os ++ [o]) left1 (.val (.int (k : Nat))) t5 (by lia) (by simp [hl]) (fun x hx => by
     rcases List.mem_append.mp hx with hx | hx
     · exact ho x hx
     · simp at hx; subst hx; exact ho1)
   refine Ieeeeaa os2 left2 u4 u5 hl2 ho2 ?_
   rw [List.range'_succ, List.map_cons]
   exact e_for (σ1 := [.val (.int (n : Nat)), .val (sgD nm), .ownL false ((wsOf nm os).map D.str), .val (.int left), .val (.int (k : Nat)), s5]) rfl h1 h2
theorem words_eq (nm : Nat → Nat) (n : Nat) : ∃ X : Dr, X.nm = nm ∧ g_law_words [.int (n : Nat), sgD nm] = some (.list ((List.range 7).map fun i => .str (X.w i))) := by
 refine Xeeeeaa (wd_loop (nm := nm) (n := n) 7 0 [] 4 .non .non rfl rfl (by simp)) fun os left t4 t5 hl ho h => ?_
 haveI hop : ∀ i k, os.getD i none = some k → k < 3 ∧ i < 7 := fun i k e => by
   rw [List.getD] at e
   cases q : os[i]? with
   | none => rw [q] at e; cases e
   | some o =>
     rw [q] at e
     haveI hm := List.mem_of_getElem? q
     haveI := (List.getElem?_eq_some_iff.mp q).1
     exact ⟨ho o hm k e, by lia⟩
 let X : Dr := ⟨nm, fun i => os.getD i none, hop⟩
 refine Iea X rfl ?_
 haveI hws : (wsOf nm os).map D.str = (List.range 7).map fun i => D.str (X.w i) := by
   apply List.ext_getElem
   · simp [wsOf, hl]
   · intro i h1 h2
     simp [wsOf, hl] at h1
     haveI hil : i < os.length := by lia
     simp only [wsOf, List.getElem_map, List.getElem_zipIdx, List.getElem_range, Nat.zero_add]
     haveI hg : X.op i = os[i] := by show os.getD i none = _; rw [List.getD, List.getElem?_eq_getElem hil]; rfl
     congr 1
     unfold Dr.w wW
     simp only [hg]
     cases os[i] <;> rfl
 haveI wst1 : fNew 2 fnl [.val (.int (n : Nat)), .val (sgD nm), .non, .non, .non, .non] = some (.next, [.val (.int (n : Nat)), .val (sgD nm), .ownL false [], .non, .non, .non]) := by kernel_rfl
 haveI wst2 : fAsg 3 (kq (.int 4)) [.val (.int (n : Nat)), .val (sgD nm), .ownL false [], .non, .non, .non] = some (.next, [.val (.int (n : Nat)), .val (sgD nm), .ownL false [], .val (.int 4), .non, .non]) := rfl
 haveI hrg : fRange (kq (.int 7)) [.val (.int (n : Nat)), .val (sgD nm), .ownL false [], .val (.int 4), .non, .non] = some ((List.range' 0 7).map fun i : Nat => D.int (i : Nat), [.val (.int (n : Nat)), .val (sgD nm), .ownL false [], .val (.int 4), .non, .non]) := (e_range e_lit dc).trans rfl
 haveI main : ∃ σ1, f_law_words [.val (.int (n : Nat)), .val (sgD nm), .non, .non, .non, .non] = some (.ret (.list ((wsOf nm os).map D.str)), σ1) :=
   ⟨_, e_seq wst1 (e_seq wst2 (e_seq (e_fors hrg h) (e_seqR (e_ret (e_varL rfl)))))⟩
 refine Xe main fun σ1 hm => ?_
 rw [hws] at hm
 exact e_run (f := f_law_words) rfl rfl hm
noncomputable def trT : FnB := fCmp (cmpD .Gt) (fCall gLen (fC_ (fv_ 1) fnl)) (kq (.int 1))
noncomputable def trB : FnF := fSeq (fAsg 2 (fBin .Mod (fv_ 0) (fBin .Sub (fCall gLen (fC_ (fv_ 1) fnl)) (kq (.int 1))))) (fSeq (fAsg 0 (fBin .FloorDiv (fv_ 0) (fBin .Sub (fCall gLen (fC_ (fv_ 1) fnl)) (kq (.int 1))))) (fSeq (fAsg 1 (fBin .Add (fBin .Add (fSlice (fv_ 1) fNoPart (fPart (fv_ 2))) (fLst (fC_ (fTup (fC_ (fSub (fv_ 1) (fv_ 2)) (fC_ (fSub (fv_ 1) (fBin .Add (fv_ 2) (kq (.int 1)))) fnl))) fnl))) (fSlice (fv_ 1) (fPart (fBin .Add (fv_ 2) (kq (.int 2)))) fNoPart))) fBNil))
theorem tr_form : f_law_tree = fSeq (fNew 1 (fC_ (kq (.int 0)) (fC_ (kq (.int 1)) (fC_ (kq (.int 2)) (fC_ (kq (.int 3)) (fC_ (kq (.int 4)) (fC_ (kq (.int 5)) (fC_ (kq (.int 6)) fnl)))))))) (fSeq (fWhile trT trB 100000) (fSeq (fRet (fSub (fv_ 1) (kq (.int 0)))) fBNil)) := rfl
theorem tr_turn {n : Nat} {ts : List Tr} {s2 : Slot} (h2 : 2 ≤ ts.length) (h7 : ts.length ≤ 7) : ∃ (n' : Nat) (ts' : List Tr) (s2' : Slot), ts'.length + 1 = ts.length ∧ (ts'.map Tr.leaves).flatten = (ts.map Tr.leaves).flatten ∧
   trB [.val (.int (n : Nat)), .val (.list (ts.map Tr.d)), s2] = some (.next, [.val (.int (n' : Nat)), .val (.list (ts'.map Tr.d)), s2']) := by
 have hbl : (ts.map Tr.d).length ≤ bigN := by rw [List.length_map]; unfold bigN; omega
 have hgl : gLen [.list (ts.map Tr.d)] = some (.int (ts.length : Nat)) := by
   show (if (ts.map Tr.d).length ≤ bigN then some (D.int ((ts.map Tr.d).length : Nat)) else none) = _
   rw [if_pos hbl, List.length_map]
 have hsb : binD .Sub (.int (ts.length : Nat)) (.int 1) = some (.int ((ts.length - 1 : Nat) : Int)) := by
   show some (D.int (((ts.length : Nat) : Int) - 1)) = _
   rw [show ((ts.length : Nat) : Int) - 1 = ((ts.length - 1 : Nat) : Int) by omega]
 have hmod : binD .Mod (.int (n : Nat)) (.int ((ts.length - 1 : Nat) : Int)) = some (.int ((n % (ts.length - 1) : Nat) : Int)) := by
   have : ((ts.length - 1 : Nat) : Int) ≠ 0 := by omega
   refine (if_pos (e := none) this).trans ?_
   rw [fmodN]
 have hdiv : binD .FloorDiv (.int (n : Nat)) (.int ((ts.length - 1 : Nat) : Int)) = some (.int ((n / (ts.length - 1) : Nat) : Int)) := by
   have : ((ts.length - 1 : Nat) : Int) ≠ 0 ∧ (((ts.length - 1 : Nat) : Int)).natAbs < 1073741824 := ⟨by omega, by rw [Int.natAbs_natCast]; omega⟩
   refine (if_pos (e := none) this).trans ?_
   rw [fdivN]
 have hp : n % (ts.length - 1) < ts.length - 1 := Nat.mod_lt _ (by omega)
 generalize hpe : n % (ts.length - 1) = p at hmod hp
 generalize n / (ts.length - 1) = n' at hdiv
 obtain ⟨P, a, b, Q, hts, hP⟩ : ∃ P a b Q, ts = P ++ a :: b :: Q ∧ P.length = p := by
   refine ⟨ts.take p, ts[p], ts[p + 1], ts.drop (p + 2), ?_, by rw [List.length_take]; omega⟩
   rw [← List.drop_eq_getElem_cons (by omega), ← List.drop_eq_getElem_cons (by omega), List.take_append_drop]
 subst hP
 have hmap : ts.map Tr.d = P.map Tr.d ++ a.d :: b.d :: Q.map Tr.d := by rw [hts]; simp
 have hlts : ts.length = P.length + 2 + Q.length := by rw [hts]; simp; omega
 have hs1 : sliceL (ts.map Tr.d) none (some (P.length : Nat)) = P.map Tr.d := by
   have := slice_hd (P.map Tr.d) (a.d :: b.d :: Q.map Tr.d)
   rw [List.length_map] at this
   rw [hmap]; exact this
 have hs2 : sliceL (ts.map Tr.d) (some ((P.length : Nat) + 2)) none = Q.map Tr.d := by
   have := slice_tl (P.map Tr.d ++ [a.d, b.d]) (Q.map Tr.d)
   rw [hmap]
   simp only [List.length_append, List.length_map, List.length_cons, List.length_nil, List.append_assoc, List.cons_append, List.nil_append] at this
   rw [show (((P.length : Nat) : Int) + 2) = ((P.length + (0 + 1 + 1) : Nat) : Int) by omega]
   exact this
 have hga : subD (.list (ts.map Tr.d)) (.int (P.length : Nat)) = some a.d := by
   have h1 : (0 : Int) ≤ ((P.length : Nat) : Int) ∧ ((P.length : Nat) : Int) < 1000 := by omega
   refine (if_pos (e := none) h1).trans ?_
   rw [Int.toNat_natCast]
   rw [hmap, List.getElem?_append_right (by simp)]; simp
 have hgb : subD (.list (ts.map Tr.d)) (.int ((P.length : Nat) + 1)) = some b.d := by
   have h1 : (0 : Int) ≤ (((P.length : Nat) : Int) + 1) ∧ (((P.length : Nat) : Int) + 1) < 1000 := by omega
   refine (if_pos (e := none) h1).trans ?_
   rw [show (((P.length : Nat) : Int) + 1).toNat = P.length + 1 by omega, hmap, List.getElem?_append_right (by simp)]; simp
 have ha1 : binD .Add (.list (P.map Tr.d)) (.list [.tup [a.d, b.d]]) = some (.list ((P ++ [Tr.ap a b]).map Tr.d)) := by
   have : (P.map Tr.d).length + ([D.tup [a.d, b.d]] : List D).length ≤ bigN := by simp; unfold bigN; omega
   refine (if_pos (e := none) this).trans ?_
   simp [Tr.d]
 have ha2 : binD .Add (.list ((P ++ [Tr.ap a b]).map Tr.d)) (.list (Q.map Tr.d)) = some (.list ((P ++ [Tr.ap a b] ++ Q).map Tr.d)) := by
   have : ((P ++ [Tr.ap a b]).map Tr.d).length + (Q.map Tr.d).length ≤ bigN := by simp; unfold bigN; omega
   refine (if_pos (e := none) this).trans ?_
   simp
 refine ⟨n', P ++ [Tr.ap a b] ++ Q, .val (.int (P.length : Nat)), by rw [hlts]; simp; omega, by rw [hts]; simp [Tr.leaves], ?_⟩
 have st1 : fAsg 2 (fBin .Mod (fv_ 0) (fBin .Sub (fCall gLen (fC_ (fv_ 1) fnl)) (kq (.int 1)))) [.val (.int (n : Nat)), .val (.list (ts.map Tr.d)), s2] = some (.next, [.val (.int (n : Nat)), .val (.list (ts.map Tr.d)), .val (.int (P.length : Nat))]) :=
   (e_asg (e_bin (e_var rfl) (e_bin (e_call (e_cons (e_var rfl) e_lnil) hgl) e_lit hsb) hmod)).trans rfl
 have st2 : fAsg 0 (fBin .FloorDiv (fv_ 0) (fBin .Sub (fCall gLen (fC_ (fv_ 1) fnl)) (kq (.int 1)))) [.val (.int (n : Nat)), .val (.list (ts.map Tr.d)), .val (.int (P.length : Nat))] = some (.next, [.val (.int (n' : Nat)), .val (.list (ts.map Tr.d)), .val (.int (P.length : Nat))]) :=
   (e_asg (e_bin (e_var rfl) (e_bin (e_call (e_cons (e_var rfl) e_lnil) hgl) e_lit hsb) hdiv)).trans rfl
 have v1 : fSlice (fv_ 1) fNoPart (fPart (fv_ 2)) [.val (.int (n' : Nat)), .val (.list (ts.map Tr.d)), .val (.int (P.length : Nat))] = some (.list (P.map Tr.d), [.val (.int (n' : Nat)), .val (.list (ts.map Tr.d)), .val (.int (P.length : Nat))]) := by
   rw [← hs1]; exact e_slice (e_var rfl) e_nopart (e_part (e_var rfl)) hbl
 have v2 : fSlice (fv_ 1) (fPart (fBin .Add (fv_ 2) (kq (.int 2)))) fNoPart [.val (.int (n' : Nat)), .val (.list (ts.map Tr.d)), .val (.int (P.length : Nat))] = some (.list (Q.map Tr.d), [.val (.int (n' : Nat)), .val (.list (ts.map Tr.d)), .val (.int (P.length : Nat))]) := by
   rw [← hs2]; exact e_slice (e_var rfl) (e_part (e_bin (e_var rfl) e_lit rfl)) e_nopart hbl
 have v3 : fLst (fC_ (fTup (fC_ (fSub (fv_ 1) (fv_ 2)) (fC_ (fSub (fv_ 1) (fBin .Add (fv_ 2) (kq (.int 1)))) fnl))) fnl) [.val (.int (n' : Nat)), .val (.list (ts.map Tr.d)), .val (.int (P.length : Nat))] = some (.list [.tup [a.d, b.d]], [.val (.int (n' : Nat)), .val (.list (ts.map Tr.d)), .val (.int (P.length : Nat))]) :=
   e_lst (e_cons (e_tup (e_cons (e_sub (e_var rfl) (e_var rfl) hga) (e_cons (e_sub (e_var rfl) (e_bin (e_var rfl) e_lit rfl) hgb) e_lnil)) (len2 _ _)) e_lnil) (len1 _)
 exact e_seq st1 (e_seq st2 (e_seq ((e_asg (e_bin (e_bin v1 v3 ha1) v2 ha2)).trans rfl) e_nil))
theorem tr_loop : ∀ (m n N : Nat) (ts : List Tr) (s1 s2 : Slot), lstOf s1 = some (ts.map Tr.d) → ts.length = m + 1 → m ≤ 6 → m < N → ∃ (t : Tr) (n' : Nat) (s2' : Slot), t.leaves = (ts.map Tr.leaves).flatten ∧
   fWhile trT trB N [.val (.int (n : Nat)), s1, s2] = some (.next, [.val (.int (n' : Nat)), .val (.list [t.d]), s2'])
 | m, n, 0, ts, s1, s2, h1, hl, hm, hN => by lia
 | m, n, N + 1, ts, s1, s2, h1, hl, hm, hN => by
   have hbl : (ts.map Tr.d).length ≤ bigN := by rw [List.length_map]; unfold bigN; lia
   have hgl : gLen [.list (ts.map Tr.d)] = some (.int (ts.length : Nat)) := by
     show (if (ts.map Tr.d).length ≤ bigN then some (D.int ((ts.map Tr.d).length : Nat)) else none) = _
     rw [if_pos hbl, List.length_map]
   have ht : ∀ b, decide (((ts.length : Nat) : Int) > 1) = b → trT [.val (.int (n : Nat)), s1, s2] = some (b, [.val (.int (n : Nat)), .val (.list (ts.map Tr.d)), s2]) := fun b hb =>
     e_cmp (e_call (e_cons ((e_varLst (σ := [.val (.int (n : Nat)), s1, s2]) (i := 1) h1).trans rfl) e_lnil) hgl) e_lit (cmpGt.trans (by rw [hb]))
   match m, hl, hm, hN with
   | 0, hl, _, _ =>
     match ts, hl with
     | [t], _ => exact Ieeea t n s2 (by simp) (e_whileF (ht false (by rfl)))
   | m + 1, hl, hm, hN =>
     refine Xeeeaa (tr_turn (n := n) (ts := ts) (s2 := s2) (by omega) (by lia)) fun n1 ts1 u2 l1 f1 h2 => ?_
     refine Xeeea (tr_loop m n1 N ts1 (.val (.list (ts1.map Tr.d))) u2 rfl (by lia) (by omega) (by omega)) fun t n2 v2 f2 h3 => ?_
     exact Ieeea t n2 v2 (by rw [f2, f1]) (e_whileT (ht true (decide_eq_true (by omega))) h2 h3)
theorem tree_eq (n : Nat) : ∃ t : Tr, t.leaves = List.range 7 ∧ g_law_tree [.int (n : Nat)] = some t.d := by
 refine Xeeea (tr_loop 6 n 100000 [.lf 0, .lf 1, .lf 2, .lf 3, .lf 4, .lf 5, .lf 6] (.ownL false [.int 0, .int 1, .int 2, .int 3, .int 4, .int 5, .int 6]) .non rfl rfl (by omega) (by omega)) fun t n' s2 hl h => ?_
 refine Iea t (hl.trans rfl) ?_
 have st1 : fNew 1 (fC_ (kq (.int 0)) (fC_ (kq (.int 1)) (fC_ (kq (.int 2)) (fC_ (kq (.int 3)) (fC_ (kq (.int 4)) (fC_ (kq (.int 5)) (fC_ (kq (.int 6)) fnl))))))) [.val (.int (n : Nat)), .non, .non] = some (.next, [.val (.int (n : Nat)), .ownL false [.int 0, .int 1, .int 2, .int 3, .int 4, .int 5, .int 6], .non]) := by kernel_rfl
 have hs : subD (.list [t.d]) (.int 0) = some t.d := rfl
 have main : ∃ σ1, f_law_tree [.val (.int (n : Nat)), .non, .non] = some (.ret t.d, σ1) := by
   rw [tr_form]
   exact ⟨_, e_seq st1 (e_seq h (e_seqR (e_ret (e_sub (e_var rfl) e_lit hs))))⟩
 refine Xe main fun σ1 hm => ?_
 exact e_run (f := f_law_tree) rfl rfl hm
section
variable {X : Dr} {t0 t u v : Tr} {A B C : List Nat} {es : List En}
theorem reach_from (G : Gd t0) (W : LW X t0 es es.length) (h : Sq (RedN X.ru) B t v) : ∀ C, Sq (RedN X.ru) C t0 t → (∃ e ∈ es, mask e.1 = mask C) → ∃ e ∈ es, mask e.1 = mask (C ++ B) := by
 induction h with
 | nil => intro C _ h; rw [List.append_nil]; exact h
 | @cons a B t u v r s ih =>
   intro C hC ⟨e, he, hm⟩
   haveI Fe := facts G (W.inv.sq e he)
   haveI FC := facts G hC
   haveI hst : e.2 = t := (lts X.ru).same (W.inv.sq e he) hC (mask_same Fe.nd Fe.lt FC.nd FC.lt hm)
   obtain ⟨j, hj, ej⟩ := List.getElem_of_mem he
   refine Xea (W.cl j e hj (by rw [List.getElem?_eq_getElem hj, ej]) a u (by rw [hst]; exact r.2)) fun e' he' hm' => ?_
   haveI := ih (C ++ [a]) (hC.snoc r) ⟨e', he', by rw [hm', mask_snoc, mask_snoc, hm]⟩
   rw [List.append_assoc] at this
   exact this
theorem reach (G : Gd t0) (W : LW X t0 es es.length) (h0 : ([], t0) ∈ es) (h : Sq (RedN X.ru) B t0 v) : ∃ e ∈ es, mask e.1 = mask B :=
 reach_from G W h [] .nil ⟨_, h0, rfl⟩
theorem ends_one (G : Gd t0) (W : LW X t0 es es.length) (h0 : ([], t0) ∈ es) (hq : Sq (RedN X.ru) A t0 u) (nf : NF X.ru u) : ∃ A', A'.Perm A ∧ Fa X t0 A u ∧ endsD X es es.length = [.tup [.list ((row u).map D.int), X.prof A']] := by
 refine Xea (reach G W h0 hq) fun e he hm => ?_
 have Fe := facts G (W.inv.sq e he)
 haveI FA := facts G hq
 have hset := mask_same Fe.nd Fe.lt FA.nd FA.lt hm
 have hst : e.2 = u := (lts X.ru).same (W.inv.sq e he) hq hset
 refine Ieaa e.1 (perm_of_same Fe.nd FA.nd hset) FA ?_
 unfold endsD
 rw [List.take_length]
 haveI hnd := W.inv.nd
 haveI hend : endD X e = [.tup [.list ((row u).map D.int), X.prof e.1]] := by
   unfold endD
   rw [if_neg, hst]
   rintro ⟨i, w, hw⟩
   rw [hst] at hw
   exact nf i w hw
 have hoth : ∀ x ∈ es, mask x.1 ≠ mask e.1 → endD X x = [] := by
   intro x hx hne
   unfold endD
   rw [if_pos]
   apply Classical.byContradiction
   intro hno
   haveI hxn : ∀ i w, ¬ RedN X.ru i x.2 w := fun i w hw => hno ⟨i, w, hw.2⟩
   haveI hen : ∀ i w, ¬ RedN X.ru i u w := fun i w hw => nf i w hw.2
   haveI Fx := facts G (W.inv.sq x hx)
   haveI a1 := (lts X.ru).atEnd (W.inv.sq x hx) hq hxn
   haveI a2 := (lts X.ru).atEnd hq (W.inv.sq x hx) hen
   exact hne ((mask_of Fx.nd Fx.lt FA.nd fun i => ⟨a2 i, a1 i⟩).trans hm.symm)
 refine Xee (List.append_of_mem he) fun P Q hPQ => ?_
 rw [hPQ, List.map_append, List.map_cons, List.nodup_append, List.nodup_cons] at hnd
 have hP : P.flatMap (endD X) = [] := by
   rw [List.flatMap_eq_nil_iff]
   intro x hx
   refine hoth x (by rw [hPQ]; simp [hx]) fun q => ?_
   exact hnd.2.2 (mask x.1) (List.mem_map_of_mem (f := fun e : En => mask e.1) hx) (mask e.1) (by simp) q
 have hQ : Q.flatMap (endD X) = [] := by
   rw [List.flatMap_eq_nil_iff]
   intro x hx
   refine hoth x (by rw [hPQ]; simp [hx]) fun q => ?_
   exact hnd.2.1.1 (q ▸ List.mem_map_of_mem (f := fun e : En => mask e.1) hx)
 rw [hPQ, List.flatMap_append, List.flatMap_cons, hP, hQ, hend]; rfl
theorem bitAnd_nat (a b : Nat) : Builtin.bitAnd (a : Int) (b : Int) = ((a &&& b : Nat) : Int) := by
 unfold Builtin.bitAnd
 have ha : decide ((0 : Int) ≤ (a : Nat)) = true := by simp
 have hb : decide ((0 : Int) ≤ (b : Nat)) = true := by simp
 rw [ha, hb]; rfl
theorem bitOr_nat (a b : Nat) : Builtin.bitOr (a : Int) (b : Int) = ((a ||| b : Nat) : Int) := by
 unfold Builtin.bitOr Builtin.bitAnd Builtin.bitNot
 have ha : decide ((0 : Int) ≤ -(a : Int) - 1) = false := by rw [decide_eq_false]; omega
 haveI hb : decide ((0 : Int) ≤ -(b : Int) - 1) = false := by rw [decide_eq_false]; omega
 rw [ha, hb]
 haveI e1 : (-(-(a : Int) - 1) - 1).toNat = a := by lia
 haveI e2 : (-(-(b : Int) - 1) - 1).toNat = b := by lia
 simp only [e1, e2]
 lia
theorem keys_in {m : Nat} (h : ∃ e ∈ es, mask e.1 = m) : cmpD .NotIn (.int (m : Nat)) (.dI (pf X es)) = some false := by
 refine Xea h fun e he hm => ?_
 have : (atI (pf X es) (m : Nat)).isSome = true := by
   rw [find_at]
   cases q : es.find? fun e => decide (mask e.1 = m) with
   | none => exact absurd hm (find_none q e he)
   | some x => rfl
 show some (!(atI (pf X es) (m : Nat)).isSome) = _
 rw [this]; rfl
theorem keys_or (G : Gd t0) (W : LW X t0 es es.length) (h0 : ([], t0) ∈ es) {e f : En} (he : e ∈ es) (hf : f ∈ es) : cmpD .NotIn (.int (Builtin.bitOr (mask e.1 : Nat) (mask f.1 : Nat))) (.dI (pf X es)) = some false := by
 have Fe := facts G (W.inv.sq e he)
 have Ff := facts G (W.inv.sq f hf)
 refine Xeea ((lts X.ru).union (W.inv.sq e he) (W.inv.sq f hf)) fun D' w hD hs => ?_
 have FD := facts G hD
 refine Xea (reach G W h0 hD) fun x hx hm => ?_
 rw [bitOr_nat, mask_or Fe.nd Fe.lt Ff.nd Ff.lt FD.nd hs]
 exact keys_in ⟨x, hx, hm⟩
theorem keys_and (G : Gd t0) (W : LW X t0 es es.length) (h0 : ([], t0) ∈ es) {e f : En} (he : e ∈ es) (hf : f ∈ es) : cmpD .NotIn (.int (Builtin.bitAnd (mask e.1 : Nat) (mask f.1 : Nat))) (.dI (pf X es)) = some false := by
 have Fe := facts G (W.inv.sq e he)
 have Ff := facts G (W.inv.sq f hf)
 refine Xeea ((lts X.ru).inter (W.inv.sq e he) (W.inv.sq f hf)) fun D' w hD hs => ?_
 have FD := facts G hD
 refine Xea (reach G W h0 hD) fun x hx hm => ?_
 rw [bitAnd_nat, mask_and Fe.nd Fe.lt Ff.nd Ff.lt FD.nd hs]
 exact keys_in ⟨x, hx, hm⟩
theorem lat_inner {P : Slot} {d : D} {ft : FnB} : ∀ (ds acc : List D) (s1 : Slot), (∀ d' ∈ ds, ft [.val d, .val d', P] = some (false, [.val d, .val d', P])) →
   ∃ s1', fLoop (gName 1) ft (fEmit (fv_ 0)) ds acc [.val d, s1, P] = some (acc, [.val d, s1', P])
 | [], acc, s1, _ => ⟨s1, rfl⟩
 | d' :: ds, acc, s1, h => by
   refine Xe (lat_inner ds acc (.val d') fun x hx => h x (List.mem_cons_of_mem _ hx)) fun s1' e => ?_
   refine ⟨s1', ?_⟩
   rw [fLoop]
   haveI g1 : gName 1 d' [.val d, s1, P] = some [.val d, .val d', P] := rfl
   simp only [g1, Option.bind_some, h d' (by simp)]
   exact e
theorem lat_outer {P : D} {ft : FnB} {ks : List D} (hk : ∀ d s1, fKeys (fv_ 2) [.val d, s1, .val P] = some (ks, [.val d, s1, .val P])) : ∀ (ds acc : List D) (s0 s1 : Slot), (∀ d ∈ ds, ∀ d' ∈ ks, ft [.val d, .val d', .val P] = some (false, [.val d, .val d', .val P])) →
   ∃ s0' s1', fLoop (gName 0) fAndN (fInner (fKeys (fv_ 2)) (gName 1) ft (fEmit (fv_ 0))) ds acc [s0, s1, .val P] = some (acc, [s0', s1', .val P])
 | [], acc, s0, s1, _ => ⟨s0, s1, rfl⟩
 | d :: ds, acc, s0, s1, h => by
   refine Xe (lat_inner (d := d) (P := .val P) (ft := ft) ks acc s1 (h d (by simp))) fun t1 e1 => ?_
   refine Xee (lat_outer hk ds acc (.val d) t1 fun x hx => h x (List.mem_cons_of_mem _ hx)) fun t0 t2 e2 => ?_
   refine Iee t0 t2 ?_
   rw [fLoop]
   haveI g1 : gName 0 d [s0, s1, .val P] = some [.val d, s1, .val P] := rfl
   haveI a1 : fAndN [.val d, s1, .val P] = some (true, [.val d, s1, .val P]) := rfl
   haveI i1 : fInner (fKeys (fv_ 2)) (gName 1) ft (fEmit (fv_ 0)) acc [.val d, s1, .val P] = some (acc, [.val d, t1, .val P]) := by
     simp only [fInner, hk, Option.bind_some]; exact e1
   simp only [g1, Option.bind_some, a1, if_true, i1]
   exact e2
theorem tdep_le (t : Tr) : t.dep ≤ t.leaves.length := by
 induction t with
 | lf i => simp [Tr.dep, Tr.leaves]
 | ap l r hl hr =>
   have h1 : 0 < l.leaves.length := List.length_pos_of_mem Tr.head_mem
   have h2 : 0 < r.leaves.length := List.length_pos_of_mem Tr.head_mem
   simp only [Tr.dep, Tr.leaves, List.length_append]; omega
theorem size_leaves (t : Tr) : size t + 1 = 2 * t.leaves.length := by
 induction t with
 | lf i => rfl
 | ap l r hl hr => simp only [size, Tr.leaves, List.length_append]; exact tw hl hr
theorem okApp (x y : Str) (hx : okText x = true) (hy : okText y = true) : okText (x ++ y) = true := by
 unfold okText at hx hy ⊢
 show (x.cps ++ y.cps).all _ = true
 rw [Array.all_append, hx, hy]; rfl
theorem okTxt {w : Nat → Str} {t : Tr} (h : ∀ i ∈ t.leaves, okText (w i) = true) : okText (txt w t) = true := by
 induction t with
 | lf i => exact h i (by simp [Tr.leaves])
 | ap l r hl hr =>
   exact okApp _ _ (okApp _ _ (okApp _ _ (by decide +kernel) (hl fun i hi => h i (by simp [Tr.leaves, hi]))) (by decide +kernel)) (hr fun i hi => h i (by simp [Tr.leaves, hi]))
theorem fill_lf {t : Tr} (h : ∀ i ∈ t.leaves, i < 7) : Tr.fill ((List.range 7).map Tr.lf) t = t := by
 induction t with
 | lf i =>
   haveI := h i (by simp [Tr.leaves])
   simp [Tr.fill, List.getD, this]
 | ap l r hl hr => rw [Tr.fill, hl fun i hi => h i (by simp [Tr.leaves, hi]), hr fun i hi => h i (by simp [Tr.leaves, hi])]
end
noncomputable def NLd (X : Dr) (a b : Nat) : D := .list [.int (X.nm 0 : Nat), .int (X.nm 1 : Nat), .int (X.nm 2 : Nat), .int (a : Nat), .int (b : Nat)]
noncomputable def SHd (X : Dr) : D := .list [(X.s 0).d, (X.s 1).d, (X.s 2).d]
noncomputable def TXd (X : Dr) : D := .list [.str (X.rt 0), .str (X.rt 1), .str (X.rt 2)]
noncomputable def WDd (X : Dr) : D := .list ((List.range 7).map fun i => .str (X.w i))
noncomputable def r3 : List D := (List.range 3).map fun i : Nat => D.int (i : Nat)
noncomputable def r7 : List D := (List.range 7).map fun i : Nat => D.int (i : Nat)
theorem mem_r3 {d : D} (h : d ∈ r3) : ∃ i : Nat, i < 3 ∧ d = .int (i : Nat) := by
 refine Xea (List.mem_map.mp h) fun i hi q2 => ?_; subst q2
 exact Iea i (List.mem_range.mp hi) rfl
theorem mem_r7 {d : D} (h : d ∈ r7) : ∃ i : Nat, i < 7 ∧ d = .int (i : Nat) := by
 refine Xea (List.mem_map.mp h) fun i hi q2 => ?_; subst q2
 exact Iea i (List.mem_range.mp hi) rfl
theorem rg3 {σ : LS} : fRange (kq (.int 3)) σ = some (r3, σ) := (e_range e_lit dc).trans rfl
theorem rg7 {σ : LS} : fRange (kq (.int 7)) σ = some (r7, σ) := (e_range e_lit dc).trans rfl
section
variable {X : Dr} {a b : Nat}
theorem nl_sub {i : Nat} (h : i < 3) : subD (NLd X a b) (.int (i : Nat)) = some (.int (X.nm i : Nat)) := by
 match i, h with
 | 0, _ => rfl
 | 1, _ => rfl
 | 2, _ => rfl
theorem sh_sub {i : Nat} (h : i < 3) : subD (SHd X) (.int (i : Nat)) = some (X.s i).d := by
 match i, h with
 | 0, _ => rfl
 | 1, _ => rfl
 | 2, _ => rfl
theorem tx_sub {i : Nat} (h : i < 3) : subD (TXd X) (.int (i : Nat)) = some (.str (X.rt i)) := by
 match i, h with
 | 0, _ => rfl
 | 1, _ => rfl
 | 2, _ => rfl
theorem wd_sub {i : Nat} (h : i < 7) : subD (WDd X) (.int (i : Nat)) = some (.str (X.w i)) := by
 haveI h1 : (0 : Int) ≤ ((i : Nat) : Int) ∧ ((i : Nat) : Int) < 1000 := by lia
 refine (if_pos (e := none) h1).trans ?_
 rw [Int.toNat_natCast]
 simp [h]
noncomputable def hI {α : Type} (f : Nat → D) (d : D) : D := match d with
 | .int v => f v.toNat
 | d => d
theorem hI_eq {f : Nat → D} (i : Nat) : hI (α := Nat) f (.int (i : Nat)) = f i := rfl
theorem shapes_c {σ : LS} (h : σ.getD 1 .non = .val (NLd X a b)) : fMk .list (fLC (fItL (fun _ => true) (fSlice (fv_ 1) fNoPart (fPart (kq (.int 3))))) ["number"] [] (gName 0) fAndN (fEmit (fCall g_law_shape (fC_ (fv_ 0) fnl))) []) σ = some (SHd X, σ) := by
 haveI hb : ([.int (X.nm 0 : Nat), .int (X.nm 1 : Nat), .int (X.nm 2 : Nat), .int (a : Nat), .int (b : Nat)] : List D).length ≤ bigN := by show 5 ≤ 100000; lia
 haveI hi : fItL (fun _ => true) (fSlice (fv_ 1) fNoPart (fPart (kq (.int 3)))) σ = some ([.int (X.nm 0 : Nat), .int (X.nm 1 : Nat), .int (X.nm 2 : Nat)], σ) := by
   haveI : fSlice (fv_ 1) fNoPart (fPart (kq (.int 3))) σ = some (.list (sliceL [.int (X.nm 0 : Nat), .int (X.nm 1 : Nat), .int (X.nm 2 : Nat), .int (a : Nat), .int (b : Nat)] none (some 3)), σ) := e_slice (e_var h) e_nopart (e_part e_lit) hb
   simp only [fItL, this, Option.bind_some, if_true]; rfl
 haveI := lc_map (x := "number") (fr := []) (rest := []) (e := fCall g_law_shape (fC_ (fv_ 0) fnl)) (h := hI (α := Nat) fun v => (sh v).d) hi rfl (fun d hd => by
   simp only [List.mem_cons, List.not_mem_nil, or_false] at hd
   rcases hd with rfl | rfl | rfl <;> exact e_call (e_cons (e_var rfl) e_lnil) (g_shape_eq _)) (by show 3 ≤ 100000; lia)
 exact (e_mk this).trans rfl
theorem signs_c {σ : LS} (h : σ.getD 1 .non = .val (NLd X a b)) (hf : fFree ["k"] [("numbers", 1)] σ = some (.non :: [.val (NLd X a b)])) : fMk .list (fLC (fRange (kq (.int 3))) ["k"] [("numbers", 1)] (gName 0) fAndN (fEmit (fCall g_law_sign (fC_ (fSub (fv_ 1) (fv_ 0)) (fC_ (fv_ 0) fnl)))) []) σ = some (sgD X.nm, σ) := by
 have := lc_map (x := "k") (fr := [("numbers", 1)]) (rest := [.val (NLd X a b)]) (e := fCall g_law_sign (fC_ (fSub (fv_ 1) (fv_ 0)) (fC_ (fv_ 0) fnl))) (h := hI (α := Nat) fun v => .str (sg (X.nm v) v)) (rg3 (σ := σ)) hf (fun d hd => by
   refine Xea (mem_r3 hd) fun i hi q2 => ?_; subst q2
   exact e_call (e_cons (e_sub (e_var rfl) (e_var rfl) (nl_sub hi)) (e_cons (e_var rfl) e_lnil)) (g_sign_eq _ i hi)) (by show 3 ≤ 100000; omega)
 exact (e_mk this).trans rfl
theorem cap_sub (g : Bool) : ∀ i, i < 3 → subD (.str (capT g)) (.int (i : Nat)) = some (.str (capL g i)) := by
 intro i hi
 cases g
 · match i, hi with
   | 0, _ => kernel_rfl
   | 1, _ => kernel_rfl
   | 2, _ => kernel_rfl
 · match i, hi with
   | 0, _ => kernel_rfl
   | 1, _ => kernel_rfl
   | 2, _ => kernel_rfl
theorem texts_c {σ : LS} (hf : fFree ["k"] [("shapes", 2), ("numbers", 1)] σ = some (.non :: [.val (SHd X), .val (NLd X a b)])) : fMk .list (fLC (fRange (kq (.int 3))) ["k"] [("shapes", 2), ("numbers", 1)] (gName 0) fAndN (fEmit (fCall (g_law_text 100) (fC_ (fSub (fv_ 1) (fv_ 0)) (fC_ (fSub (fTup (fC_ (kq (.str "abc")) (fC_ (kq (.str "ABC")) fnl))) (fBin .Mod (fBin .FloorDiv (fSub (fv_ 2) (fv_ 0)) (kq (.int 180))) (kq (.int 2)))) fnl)))) []) σ = some (TXd X, σ) := by
 haveI := lc_map (x := "k") (fr := [("shapes", 2), ("numbers", 1)]) (rest := [.val (SHd X), .val (NLd X a b)]) (e := fCall (g_law_text 100) (fC_ (fSub (fv_ 1) (fv_ 0)) (fC_ (fSub (fTup (fC_ (kq (.str "abc")) (fC_ (kq (.str "ABC")) fnl))) (fBin .Mod (fBin .FloorDiv (fSub (fv_ 2) (fv_ 0)) (kq (.int 180))) (kq (.int 2)))) fnl))) (h := hI (α := Nat) fun v => .str (X.rt v)) (rg3 (σ := σ)) hf (fun d hd => by
   refine Xea (mem_r3 hd) fun i hi q2 => ?_; subst q2
   haveI h1 : binD .FloorDiv (.int (X.nm i : Nat)) (.int 180) = some (.int ((X.nm i / 180 : Nat) : Int)) := by
     have : (180 : Int) ≠ 0 ∧ Int.natAbs 180 < 1073741824 := by decide
     refine (if_pos (e := none) this).trans ?_
     rw [← fdivN _ 180]; rfl
   have h2 : binD .Mod (.int ((X.nm i / 180 : Nat) : Int)) (.int 2) = some (.int ((X.nm i / 180 % 2 : Nat) : Int)) := by
     have : (2 : Int) ≠ 0 := by decide
     refine (if_pos (e := none) this).trans ?_
     rw [← fmodN _ 2]; rfl
   haveI h3 : subD (.tup [.str "abc", .str "ABC"]) (.int ((X.nm i / 180 % 2 : Nat) : Int)) = some (.str (capT (great (X.nm i)))) := by
     unfold great
     have hlt : X.nm i / 180 % 2 < 2 := Nat.mod_lt _ dc
     generalize X.nm i / 180 % 2 = m at hlt
     match m, hlt with
     | 0, _ => rfl
     | 1, _ => rfl
   haveI h4 := g_text_eq (W := .str (capT (great (X.nm i)))) (w := capL (great (X.nm i))) (t := X.s i) (j := 100) (by have := tdep_le (X.s i); rw [Dr.s, sh_leaves] at this; haveI := ar_le (X.nm i); unfold Dr.s; omega) (fun m hm => ⟨cap_sub _ m (sh_lt _ m hm), (capL_ok _ m (sh_lt _ m hm)).2.1⟩) (by rw [Dr.s, sh_leaves]; haveI := ar_le (X.nm i); omega)
   exact e_call (e_cons (e_sub (e_var rfl) (e_var rfl) (sh_sub hi)) (e_cons (e_sub (e_tup (e_cons e_lit (e_cons e_lit e_lnil)) (len2 _ _)) (e_bin (e_bin (e_sub (e_var rfl) (e_var rfl) (nl_sub hi)) e_lit h1) e_lit h2) h3) e_lnil)) h4) (by show 3 ≤ 100000; omega)
 exact (e_mk this).trans rfl
theorem rt_ok (X : Dr) (k : Nat) : okText (X.rt k) = true ∧ (X.rt k).length ≤ 18 := by
 refine ⟨okTxt fun i hi => (capL_ok _ i (sh_lt _ i hi)).2.2, ?_⟩
 have := txt_len (w := capL (great (X.nm k))) (t := X.s k) fun i hi => (capL_ok _ i (sh_lt _ i hi)).2.1
 rw [Dr.s, sh_leaves] at this
 have := ar_le (X.nm k)
 unfold Dr.rt Dr.s; lia
theorem book_init (X : Dr) : g_init (hd X.book) = true := by
 have key : ∀ k, k < 3 → (okText (sg (X.nm k) k) && okText (X.rt k) && decide ((sg (X.nm k) k).length ≤ bigN) && decide ((X.rt k).length ≤ bigN)) = true := fun k hk => by
   haveI h1 := sg_ok (sg_mem (X.nm k) k hk)
   haveI h2 := rt_ok X k
   haveI : (sg (X.nm k) k).length ≤ bigN := by have := h1.2.2.1; unfold bigN; omega
   haveI h4 : (X.rt k).length ≤ bigN := by have := h2.2; unfold bigN; omega
   rw [h1.2.1, h2.1, decide_eq_true this, decide_eq_true h4]; rfl
 haveI k0 := key 0 dc
 haveI k1 := key 1 dc
 haveI k2 := key 2 dc
 unfold g_init hd Dr.book
 simp only [List.map_cons, List.map_nil, List.all_cons, List.all_nil, Bool.and_true]
 rw [k0, k1, k2]; rfl
theorem book_c {σ : LS} (hf : fFree ["k"] [("signs", 3), ("texts", 4)] σ = some (.non :: [.val (sgD X.nm), .val (TXd X)])) : fHnew g_init (fMk .list (fLC (fRange (kq (.int 3))) ["k"] [("signs", 3), ("texts", 4)] (gName 0) fAndN (fEmit (fTup (fC_ (fSub (fv_ 1) (fv_ 0)) (fC_ (fSub (fv_ 2) (fv_ 0)) fnl)))) [])) σ = some (.hdr (hd X.book), σ) := by
 have := lc_map (x := "k") (fr := [("signs", 3), ("texts", 4)]) (rest := [.val (sgD X.nm), .val (TXd X)]) (e := fTup (fC_ (fSub (fv_ 1) (fv_ 0)) (fC_ (fSub (fv_ 2) (fv_ 0)) fnl))) (h := hI (α := Nat) fun v => .tup [.str (sg (X.nm v) v), .str (X.rt v)]) (rg3 (σ := σ)) hf (fun d hd => by
   refine Xea (mem_r3 hd) fun i hi q2 => ?_; subst q2
   exact e_tup (e_cons (e_sub (e_var rfl) (e_var rfl) (sg_sub X.nm i hi)) (e_cons (e_sub (e_var rfl) (e_var rfl) (tx_sub hi)) e_lnil)) (len2 _ _)) (by show 3 ≤ 100000; omega)
 have h2 := (e_mk (mk := D.list) this).trans (show _ = some (D.list (hd X.book), σ) from rfl)
 simp only [fHnew, h2, Option.bind_some, book_init, if_true]
noncomputable def ruE (X : Dr) (k : Nat) : D := .tup [.int (ar (X.nm k) : Nat), (X.s k).d, .str (X.rt k)]
noncomputable def ruOne (X : Dr) (i : Nat) : List (Int × D) := match X.op i with
 | some k => [(((i : Nat) : Int), ruE X k)]
 | none => []
theorem ruOne_s {X : Dr} {i k : Nat} (h : X.op i = some k) : ruOne X i = [(((i : Nat) : Int), ruE X k)] := by unfold ruOne; rw [h]
theorem ruOne_n {X : Dr} {i : Nat} (h : X.op i = none) : ruOne X i = [] := by unfold ruOne; rw [h]
noncomputable def ruL (X : Dr) (is : List Nat) : List (Int × D) := is.flatMap (ruOne X)
theorem ruL_at (X : Dr) : ∀ (is : List Nat) (i : Nat), atI (ruL X is) (i : Nat) = if i ∈ is then (X.op i).map (ruE X) else none
 | [], i => rfl
 | j :: is, i => by
   haveI ih := ruL_at X is i
   unfold ruL at ih ⊢
   rw [List.flatMap_cons]
   unfold atI at ih ⊢
   cases e : X.op j with
   | none =>
     rw [ruOne_n e, List.nil_append, ih]
     by_cases q : i = j
     · subst q; simp [e]
     · simp [q]
   | some k =>
     rw [ruOne_s e]
     by_cases q : i = j
     · subst q
       simp only [List.cons_append]
       rw [List.find?_cons_of_pos (by simp)]
       simp [e]
     · simp only [List.cons_append, List.nil_append]
       rw [List.find?_cons_of_neg (by simp; lia), ih]
       simp [q]
theorem ruL_ok (X : Dr) : RuD X (ruL X (List.range 7)) := by
 constructor
 · intro i k e
   have := (X.hop i k e).2
   rw [ruL_at, if_pos (List.mem_range.mpr this), e]; rfl
 · intro i e
   rw [ruL_at, e]
   split <;> rfl
noncomputable def ruB : FnF := fSeq (fIf (fCmp (cmpD .In) (fSub (fv_ 5) (fv_ 9)) (fv_ 3)) (fSeq (fAsg 17 (fMeth "list" gIndex (fv_ 3) (fC_ (fSub (fv_ 5) (fv_ 9)) fnl))) (fSeq (fSetI 8 (fTup (fC_ (fBin .Add (fBin .Add (kq (.int 1)) (fB (fCmp (cmpD .Gt) (fBin .Mod (fSub (fv_ 1) (fv_ 17)) (kq (.int 15))) (kq (.int 0))))) (fB (fCmp (cmpD .Gt) (fBin .Mod (fSub (fv_ 1) (fv_ 17)) (kq (.int 15))) (kq (.int 2))))) (fC_ (fSub (fv_ 2) (fv_ 17)) (fC_ (fSub (fv_ 4) (fv_ 17)) fnl)))) (fv_ 9)) fBNil)) fBNil) fBNil
theorem e_setI {σ σ1 σ2 : LS} {i : Nat} {d : D} {m : Int} {fe fk : FnD} {es0 es : List (Int × D)} (h1 : fe σ = some (d, σ1)) (h0 : ownIAt i σ1 = some es0) (h2 : fk σ1 = some (.int m, σ2)) (h4 : ownIAt i σ2 = some es) (h5 : es.length ≤ bigN) : fSetI i fe fk σ = some (.next, σ2.set i (.ownI (putI es m d))) := by
 simp only [fSetI, h1, Option.bind_some, h0, h2, intD, h4, if_pos h5]
theorem sgn3 (X : Dr) : strsOf [.str (sg (X.nm 0) 0), .str (sg (X.nm 1) 1), .str (sg (X.nm 2) 2)] = some [sg (X.nm 0) 0, sg (X.nm 1) 1, sg (X.nm 2) 2] := rfl
theorem idx_sg (X : Dr) : ∀ k, k < 3 → gIndex (sgD X.nm) [.str (sg (X.nm k) k)] = some (.int (k : Nat)) := by
 haveI h01 : sg (X.nm 0) 0 ≠ sg (X.nm 1) 1 := fun e => absurd (sg_inj dc dc e) dc
 haveI h02 : sg (X.nm 0) 0 ≠ sg (X.nm 2) 2 := fun e => absurd (sg_inj dc dc e) dc
 haveI h12 : sg (X.nm 1) 1 ≠ sg (X.nm 2) 2 := fun e => absurd (sg_inj dc dc e) dc
 haveI hl : ([sg (X.nm 0) 0, sg (X.nm 1) 1, sg (X.nm 2) 2] : List Str).length ≤ bigN := by show 3 ≤ 100000; omega
 intro k hk
 show ((strsOf [.str (sg (X.nm 0) 0), .str (sg (X.nm 1) 1), .str (sg (X.nm 2) 2)]).bind fun ys => if ys.length ≤ bigN then (idx0 (sg (X.nm k) k) ys).map fun (i : Nat) => D.int i else none) = _
 rw [sgn3, Option.bind_some, if_pos hl]
 match k, hk with
 | 0, _ => simp [idx0]
 | 1, _ => simp [idx0, h01]
 | 2, _ => simp [idx0, h02, h12]
theorem in_sg (X : Dr) (i : Nat) (hi : i < 7) : cmpD .In (.str (X.w i)) (sgD X.nm) = some (X.op i).isSome := by
 unfold sgD
 show ((strsOf [.str (sg (X.nm 0) 0), .str (sg (X.nm 1) 1), .str (sg (X.nm 2) 2)]).map fun ys => ys.any (· == X.w i)) = _
 rw [sgn3, Option.map_some]
 congr 1
 cases e : X.op i with
 | some k =>
   haveI hk := (X.hop i k e).1
   haveI hw : X.w i = sg (X.nm k) k := by unfold Dr.w; rw [e]
   rw [hw, List.any_eq_true.mpr]
   · rfl
   · match k, hk with
     | 0, _ => exact Iea (sg (X.nm 0) 0) List.mem_cons_self (by simp)
     | 1, _ => exact Iea _ (List.mem_cons_of_mem _ (List.mem_cons_self)) (by simp)
     | 2, _ => exact Iea _ (List.mem_cons_of_mem _ (List.mem_cons_of_mem _ List.mem_cons_self)) (by simp)
 | none =>
   haveI hw : X.w i = letL.getD i "" := by unfold Dr.w; rw [e]
   haveI hm : letL.getD i "" ∈ letL := by
     haveI hl : i < letL.length := hi
     rw [List.getD, List.getElem?_eq_getElem hl]
     exact List.getElem_mem hl
   rw [hw, List.any_eq_false.mpr]
   · rfl
   · intro s hs
     haveI hsg : s ∈ sgnL := by
       simp only [List.mem_cons, List.not_mem_nil, or_false] at hs
       rcases hs with rfl | rfl | rfl
       · exact sg_mem _ 0 dc
       · exact sg_mem _ 1 dc
       · exact sg_mem _ 2 dc
     haveI := List.all_eq_true.mp (List.all_eq_true.mp sgn_let s hsg) _ hm
     simpa using this
end
section
variable {X : Dr} {a b : Nat} {t : Tr} {R0 s8 s9 s10 s11 s12 s13 s14 s15 s16 s17 : Slot}
noncomputable abbrev fN9 (R0 : Slot) (X : Dr) (a b : Nat) (t : Tr) (r : LS) : LS := R0 :: .val (NLd X a b) :: .val (SHd X) :: .val (sgD X.nm) :: .val (TXd X) :: .val (WDd X) :: .val t.d :: r
theorem ru_turn {i : Nat} {is : List Nat} (hi : i < 7) (hn : i ∉ is) (hl : is.length ≤ 7) : ∃ s17', ruB (fN9 R0 X a b t [.val (.hdr (hd namesL)), .ownI (ruL X is), .val (.int (i : Nat)), s10, s11, s12, s13, s14, s15, s16, s17]) = some (.next, (fN9 R0 X a b t [.val (.hdr (hd namesL)), .ownI (ruL X (is ++ [i])), .val (.int (i : Nat)), s10, s11, s12, s13, s14, s15, s16, s17'])) := by
 haveI hin := in_sg X i hi
 have hap : ruL X (is ++ [i]) = ruL X is ++ ruOne X i := by unfold ruL; simp
 haveI hlen : (ruL X is).length ≤ bigN := by
   haveI := flat_len (f := ruOne X) (fun j => by cases e : X.op j with | none => rw [ruOne_n e]; simp | some k => rw [ruOne_s e]; simp) is
   unfold ruL; unfold bigN; lia
 cases e : X.op i with
 | none =>
   rw [e] at hin
   refine ⟨s17, ?_⟩
   have : ruL X (is ++ [i]) = ruL X is := by rw [hap, ruOne_n e]; simp
   rw [this]
   exact e_seq (e_ifF (e_cmp (e_sub (e_var rfl) (e_var rfl) (wd_sub hi)) (e_var rfl) hin) e_nil) e_nil
 | some k =>
   rw [e] at hin
   haveI hk := (X.hop i k e).1
   have hw : X.w i = sg (X.nm k) k := by unfold Dr.w; rw [e]
   haveI hix := idx_sg X k hk
   rw [← hw] at hix
   haveI hm15 : binD .Mod (.int (X.nm k : Nat)) (.int 15) = some (.int ((X.nm k % 15 : Nat) : Int)) := by
     haveI : (15 : Int) ≠ 0 := by decide
     refine (if_pos (e := none) this).trans ?_
     rw [← fmodN _ 15]; rfl
   haveI hput : putI (ruL X is) (i : Nat) (ruE X k) = ruL X (is ++ [i]) := by
     rw [hap, ruOne_s e]
     unfold putI
     rw [if_neg]
     rw [Bool.not_eq_true, List.any_eq_false]
     intro p hp
     unfold ruL at hp
     refine Xea (List.mem_flatMap.mp hp) fun j hj hpj => ?_
     haveI : p.1 = (j : Nat) := by
       cases ej : X.op j with
       | none => rw [ruOne_n ej] at hpj; cases hpj
       | some k' => rw [ruOne_s ej] at hpj; simp at hpj; rw [hpj]
     haveI hne : j ≠ i := by rintro rfl; exact hn hj
     simp [this]; lia
   haveI har : ∀ x : Int, binD .Add (.int x) (.bool (decide (((X.nm k % 15 : Nat) : Int) > 0))) = some (.int (x + (if X.nm k % 15 > 0 then 1 else 0 : Nat))) := fun x => by
     show some (D.int (x + if decide (((X.nm k % 15 : Nat) : Int) > 0) = true then 1 else 0)) = _
     by_cases q : X.nm k % 15 > 0
     · rw [if_pos q, if_pos (decide_eq_true (by omega))]; rfl
     · rw [if_neg q, if_neg (by rw [decide_eq_false (by omega)]; decide)]; rfl
   haveI har2 : ∀ x : Int, binD .Add (.int x) (.bool (decide (((X.nm k % 15 : Nat) : Int) > 2))) = some (.int (x + (if X.nm k % 15 > 2 then 1 else 0 : Nat))) := fun x => by
     show some (D.int (x + if decide (((X.nm k % 15 : Nat) : Int) > 2) = true then 1 else 0)) = _
     by_cases q : X.nm k % 15 > 2
     · rw [if_pos q, if_pos (decide_eq_true (by omega))]; rfl
     · rw [if_neg q, if_neg (by rw [decide_eq_false (by omega)]; decide)]; rfl
   refine ⟨.val (.int (k : Nat)), ?_⟩
   rw [← hput]
   haveI st1 : fAsg 17 (fMeth "list" gIndex (fv_ 3) (fC_ (fSub (fv_ 5) (fv_ 9)) fnl)) (fN9 R0 X a b t [.val (.hdr (hd namesL)), .ownI (ruL X is), .val (.int (i : Nat)), s10, s11, s12, s13, s14, s15, s16, s17]) = some (.next, (fN9 R0 X a b t [.val (.hdr (hd namesL)), .ownI (ruL X is), .val (.int (i : Nat)), s10, s11, s12, s13, s14, s15, s16, .val (.int (k : Nat))])) :=
     (e_asg (e_meth (e_var rfl) rfl (e_cons (e_sub (e_var rfl) (e_var rfl) (wd_sub hi)) e_lnil) hix)).trans rfl
   haveI v0 : fBin .Mod (fSub (fv_ 1) (fv_ 17)) (kq (.int 15)) (fN9 R0 X a b t [.val (.hdr (hd namesL)), .ownI (ruL X is), .val (.int (i : Nat)), s10, s11, s12, s13, s14, s15, s16, .val (.int (k : Nat))]) = some (.int ((X.nm k % 15 : Nat) : Int), (fN9 R0 X a b t [.val (.hdr (hd namesL)), .ownI (ruL X is), .val (.int (i : Nat)), s10, s11, s12, s13, s14, s15, s16, .val (.int (k : Nat))])) := e_bin (e_sub (e_var rfl) (e_var rfl) (nl_sub hk)) e_lit hm15
   haveI v1 : fTup (fC_ (fBin .Add (fBin .Add (kq (.int 1)) (fB (fCmp (cmpD .Gt) (fBin .Mod (fSub (fv_ 1) (fv_ 17)) (kq (.int 15))) (kq (.int 0))))) (fB (fCmp (cmpD .Gt) (fBin .Mod (fSub (fv_ 1) (fv_ 17)) (kq (.int 15))) (kq (.int 2))))) (fC_ (fSub (fv_ 2) (fv_ 17)) (fC_ (fSub (fv_ 4) (fv_ 17)) fnl))) (fN9 R0 X a b t [.val (.hdr (hd namesL)), .ownI (ruL X is), .val (.int (i : Nat)), s10, s11, s12, s13, s14, s15, s16, .val (.int (k : Nat))]) = some (ruE X k, (fN9 R0 X a b t [.val (.hdr (hd namesL)), .ownI (ruL X is), .val (.int (i : Nat)), s10, s11, s12, s13, s14, s15, s16, .val (.int (k : Nat))])) := by
     haveI h3 : ([.int ((1 : Int) + (if X.nm k % 15 > 0 then 1 else 0 : Nat) + (if X.nm k % 15 > 2 then 1 else 0 : Nat)), (X.s k).d, .str (X.rt k)] : List D).length ≤ bigN := by show 3 ≤ 100000; lia
     refine (e_tup (σ := (fN9 R0 X a b t [.val (.hdr (hd namesL)), .ownI (ruL X is), .val (.int (i : Nat)), s10, s11, s12, s13, s14, s15, s16, .val (.int (k : Nat))])) (σ1 := (fN9 R0 X a b t [.val (.hdr (hd namesL)), .ownI (ruL X is), .val (.int (i : Nat)), s10, s11, s12, s13, s14, s15, s16, .val (.int (k : Nat))])) (e_cons (e_bin (e_bin e_lit (e_fB (e_cmp v0 e_lit cmpGt)) (har 1)) (e_fB (e_cmp v0 e_lit cmpGt)) (har2 _)) (e_cons (e_sub (e_var rfl) (e_var rfl) (sh_sub hk)) (e_cons (e_sub (e_var rfl) (e_var rfl) (tx_sub hk)) e_lnil))) h3).trans ?_
     haveI e1 : ((1 : Int) + (if X.nm k % 15 > 0 then 1 else 0 : Nat) + (if X.nm k % 15 > 2 then 1 else 0 : Nat)) = (ar (X.nm k) : Nat) := by unfold ar; lia
     rw [e1]; rfl
   exact e_seq (e_ifT (e_cmp (e_sub (e_var rfl) (e_var rfl) (wd_sub hi)) (e_var rfl) hin) (e_seq st1 (e_seq ((e_setI v1 rfl (e_var rfl) rfl hlen).trans rfl) e_nil))) e_nil
theorem ru_loop : ∀ (m k : Nat) (s9 s17 : Slot), k + m = 7 → ∃ s9' s17', fFor (gName 9) ruB ((List.range' k m).map fun i : Nat => D.int (i : Nat)) (fN9 R0 X a b t [.val (.hdr (hd namesL)), .ownI (ruL X (List.range k)), s9, s10, s11, s12, s13, s14, s15, s16, s17]) = some (.next, (fN9 R0 X a b t [.val (.hdr (hd namesL)), .ownI (ruL X (List.range 7)), s9', s10, s11, s12, s13, s14, s15, s16, s17']))
 | 0, k, s9, s17, h => by
   haveI : k = 7 := by omega
   subst this
   exact Iee s9 s17 rfl
 | m + 1, k, s9, s17, h => by
   refine Xe (ru_turn (X := X) (a := a) (b := b) (t := t) (R0 := R0) (s10 := s10) (s11 := s11) (s12 := s12) (s13 := s13) (s14 := s14) (s15 := s15) (s16 := s16) (s17 := s17) (i := k) (is := List.range k) (by omega) (by simp) (by simp; omega)) fun t17 h1 => ?_
   refine Xee (ru_loop m (k + 1) (.val (.int (k : Nat))) t17 (by lia)) fun u9 u17 h2 => ?_
   refine Iee u9 u17 ?_
   rw [← List.range_succ] at h1
   rw [List.range'_succ, List.map_cons]
   exact e_for (σ1 := (fN9 R0 X a b t [.val (.hdr (hd namesL)), .ownI (ruL X (List.range k)), .val (.int (k : Nat)), s10, s11, s12, s13, s14, s15, s16, s17])) rfl h1 h2
end
theorem loop_dd {fk fe : FnD} {kf : D → List KS} {kd : D → D} {rest : LS} : ∀ (ds : List D) (acc : LT) (s0 : Slot), (∀ d ∈ ds, fk (.val d :: rest) = some (kd d, .val d :: rest) ∧ keyD (kd d) = some (kf d)) → (∀ d ∈ ds, fe (.val d :: rest) = some (.int 1, .val d :: rest)) → ((acc.map (·.1)) ++ ds.map kf).Nodup → acc.length + ds.length ≤ 1000 →
   ∃ s, fLoop (gName 0) fAndN (fEmitD fk fe) ds acc (s0 :: rest) = some (acc ++ ds.map fun d => (kf d, (1 : Int)), s :: rest)
 | [], acc, s0, _, _, _, _ => ⟨s0, by simp [fLoop]⟩
 | d :: ds, acc, s0, hk, he, hn, hl => by
   refine Xa (hk d (by simp)) fun k1 k2 => ?_
   haveI e1 := he d (by simp)
   simp only [List.length_cons] at hl
   haveI hnin : kf d ∉ acc.map (·.1) := by
     rw [List.nodup_append] at hn
     exact fun q => hn.2.2 _ q _ (by simp) rfl
   haveI hc : atT acc (kf d) = none ∧ acc.length ≤ bigN := ⟨atT_none hnin, by unfold bigN; lia⟩
   refine Xe (loop_dd ds (acc ++ [(kf d, 1)]) (.val d) (fun x hx => hk x (List.mem_cons_of_mem _ hx)) (fun x hx => he x (List.mem_cons_of_mem _ hx)) (by simpa using hn) (by simp; lia)) fun s ih => ?_
   refine ⟨s, ?_⟩
   rw [fLoop]
   haveI a1 : fAndN (.val d :: rest) = some (true, .val d :: rest) := rfl
   simp only [gName, List.set_cons_zero, Option.bind_some, a1, if_true, fEmitD, k1, k2, e1, intD, if_pos hc]
   show fLoop (gName 0) fAndN (fEmitD fk fe) ds (acc ++ [(kf d, 1)]) (.val d :: rest) = _
   rw [ih]
   simp
theorem lc_dict {fi : FnL} {x : Str} {fr : List (Str × Nat)} {fk fe : FnD} {kf : D → List KS} {kd : D → D} {rest σ σ' : LS} {ds : List D} (h1 : fi σ = some (ds, σ')) (h2 : fFree [x] fr σ' = some (.non :: rest)) (hk : ∀ d ∈ ds, fk (.val d :: rest) = some (kd d, .val d :: rest) ∧ keyD (kd d) = some (kf d)) (he : ∀ d ∈ ds, fe (.val d :: rest) = some (.int 1, .val d :: rest)) (hn : (ds.map kf).Nodup) (hl : ds.length ≤ 1000) :
   fLC fi [x] fr (gName 0) fAndN (fEmitD fk fe) [] σ = some (ds.map fun d => (kf d, (1 : Int)), σ') := by
 refine Xe (loop_dd (fk := fk) (fe := fe) (kf := kf) (kd := kd) (rest := rest) ds [] .non hk he (by simpa using hn) (by simpa using hl)) fun s e => ?_
 simp only [fLC, h1, h2, Option.bind_some, e]
 simp
theorem gSum_nat (f : Nat → Nat) (A : List Nat) : gSum [.list (A.map fun i => D.int (f i : Nat))] = some (.int ((A.map f).sum : Nat)) := by
 have e : (A.map fun i => D.int (f i : Nat)) = (A.map fun i => ((f i : Nat) : Int)).map D.int := by rw [List.map_map]; rfl
 have e2 : (A.map fun i => ((f i : Nat) : Int)).sum = ((A.map f).sum : Nat) := by
   induction A with
   | nil => rfl
   | cons a A ih => simp only [List.map_cons, List.sum_cons, ih (by rw [List.map_map]; rfl)]; lia
 show ((intsOf (A.map fun i => D.int (f i : Nat))).map fun ys => D.int ys.sum) = _
 rw [e, intsOf_map]
 show some (D.int _) = _
 rw [e2]
theorem eqDs_ints (r : List Int) : eqDs (r.map D.int) (r.map D.int) = some true := by
 induction r with
 | nil => rfl
 | cons v r ih => exact eqDs_c (eqD_i v) ih
theorem end_eq {X : Dr} {A A' : List Nat} {u : Tr} (hp : A'.Perm A) (hA : A.Nodup) (hpos : ∀ i ∈ A, 0 < X.ru.n i) : eqC (.list [.tup [.list ((row u).map D.int), X.prof A']]) (.list [.tup [.list ((row u).map D.int), X.prof A]]) = some true := by
 haveI h1 := (prof_eq (X := X) hp hA hpos).1
 have h2 := eqDs_ints (row u)
 haveI h3 := depS_ints (row u)
 haveI hd : dep (.list [.tup [.list ((row u).map D.int), X.prof A']]) ≤ 9 := by
   haveI h4 : dep (X.prof A') = 4 := rfl
   haveI h5 : dep (.list ((row u).map D.int)) ≤ 4 := Nat.add_le_add_right h3 2
   haveI h6 : depS [.list ((row u).map D.int), X.prof A'] ≤ 4 := Nat.max_le.mpr ⟨h5, Nat.max_le.mpr ⟨Nat.le_of_eq h4, Nat.zero_le 4⟩⟩
   exact Nat.le_trans (Nat.add_le_add_right (Nat.max_le.mpr ⟨Nat.add_le_add_right h6 2, Nat.zero_le 6⟩) 2) dc
 rw [eqC_l hd]
 exact eqD_l rfl (eqDs_c (eqD_t rfl (eqDs_c (eqD_l rfl h2) (eqDs_c h1 rfl))) rfl)
section
variable {X : Dr} {script : List Int} {n3 n4 : Nat} {t t0 u : Tr} {es : List En}
theorem lat_c {σ : LS} (G : Gd t) (W : LW X t es es.length) (h0 : ([], t) ∈ es) (h : σ.getD 16 .non = .val (.dI (pf X es))) (hf : fFree ["one", "two"] [("profiles", 16)] σ = some [.non, .non, .val (.dI (pf X es))]) :
   fCmp neC (fMk .list (fLC (fKeys (fv_ 16)) ["one", "two"] [("profiles", 16)] (gName 0) fAndN (fInner (fKeys (fv_ 2)) (gName 1) (fOr (fCmp (cmpD .NotIn) (fBin .BitOr (fv_ 0) (fv_ 1)) (fv_ 2)) (fOr (fCmp (cmpD .NotIn) (fBin .BitAnd (fv_ 0) (fv_ 1)) (fv_ 2)) fOrN)) (fEmit (fv_ 0))) [])) (fLst fnl) σ = some (false, σ) := by
 haveI hk : fKeys (fv_ 16) σ = some ((pf X es).map fun e => D.int e.1, σ) := by simp only [fKeys, e_var h, Option.bind_some]
 refine Xee (lat_outer (P := .dI (pf X es)) (ft := fOr (fCmp (cmpD .NotIn) (fBin .BitOr (fv_ 0) (fv_ 1)) (fv_ 2)) (fOr (fCmp (cmpD .NotIn) (fBin .BitAnd (fv_ 0) (fv_ 1)) (fv_ 2)) fOrN)) (ks := (pf X es).map fun e => D.int e.1) (fun d s1 => rfl) ((pf X es).map fun e => D.int e.1) [] .non .non (fun d hd d' hd' => by
   refine Xea (List.mem_map.mp hd) fun p hp q2 => ?_; subst q2
   refine Xea (List.mem_map.mp hd') fun q hq q2 => ?_; subst q2
   refine Xea (List.mem_map.mp hp) fun e he q2 => ?_; subst q2
   refine Xea (List.mem_map.mp hq) fun f hf q2 => ?_; subst q2
   exact e_orF (e_cmp (e_bin (e_var rfl) (e_var rfl) rfl) (e_var rfl) (keys_or G W h0 he hf)) (e_orF (e_cmp (e_bin (e_var rfl) (e_var rfl) rfl) (e_var rfl) (keys_and G W h0 he hf)) rfl))) fun u0 u1 e1 => ?_
 haveI hlc : fLC (fKeys (fv_ 16)) ["one", "two"] [("profiles", 16)] (gName 0) fAndN (fInner (fKeys (fv_ 2)) (gName 1) (fOr (fCmp (cmpD .NotIn) (fBin .BitOr (fv_ 0) (fv_ 1)) (fv_ 2)) (fOr (fCmp (cmpD .NotIn) (fBin .BitAnd (fv_ 0) (fv_ 1)) (fv_ 2)) fOrN)) (fEmit (fv_ 0))) [] σ = some ([], σ) := by
   simp only [fLC, hk, hf, Option.bind_some, e1]
 exact e_cmp (e_mk hlc) (e_lst e_lnil dc) rfl
theorem parts_c {σ : LS} : fMk .list (fLC (fRange (kq (.int 7))) ["place"] [] (gName 0) fAndN (fEmit (fTup (fC_ (fv_ 0) (fC_ (fLst fnl) fnl)))) []) σ = some (.list (((List.range 7).map Tr.lf).map valD), σ) := by
 have h0 : ([] : List D).length ≤ bigN := by decide
 have := lc_map (x := "place") (fr := []) (rest := []) (e := fTup (fC_ (fv_ 0) (fC_ (fLst fnl) fnl))) (h := hI (α := Nat) fun i => valD (.lf i)) (rg7 (σ := σ)) rfl (fun d hd => by
   refine Xea (mem_r7 hd) fun i hi q2 => ?_; subst q2
   exact (e_tup (e_cons (e_var rfl) (e_cons (e_lst e_lnil h0) e_lnil)) (len2 _ _)).trans rfl) (by show 7 ≤ 100000; omega)
 exact (e_mk this).trans rfl
theorem ru_sub {i k : Nat} (h : X.op i = some k) : subD (.dI (ruL X (List.range 7))) (.int (i : Nat)) = some (ruE X k) := (ruL_ok X).some' i k h
theorem ru0 {k : Nat} : subD (ruE X k) (.int 0) = some (.int (ar (X.nm k) : Nat)) := rfl
theorem ru2 {k : Nat} : subD (ruE X k) (.int 2) = some (.str (X.rt k)) := rfl
noncomputable abbrev DN (A : List Nat) : List D := A.map fun i : Nat => D.int (i : Nat)
theorem mem_DN {A : List Nat} {d : D} (h : d ∈ DN A) : ∃ i ∈ A, d = .int (i : Nat) := by
 refine Xea (List.mem_map.mp h) fun i hi q2 => ?_; subst q2
 exact Iea i hi rfl
theorem it_DN {σ : LS} {A : List Nat} (h : σ.getD 10 .non = .val (.list (DN A))) : fItL (fun _ => true) (fv_ 10) σ = some (DN A, σ) := by
 simp only [fItL, e_var h, Option.bind_some, if_true]
theorem sizes_c {σ : LS} {A : List Nat} (F : Fa X t0 A u) (h : σ.getD 10 .non = .val (.list (DN A))) (hf : fFree ["place"] [("rules", 8)] σ = some (.non :: [.val (.dI (ruL X (List.range 7)))])) :
   fCall gSum (fC_ (fMk .list (fLC (fItL (fun _ => true) (fv_ 10)) ["place"] [("rules", 8)] (gName 0) fAndN (fEmit (fSub (fSub (fv_ 1) (fv_ 0)) (kq (.int 0)))) [])) fnl) σ = some (.int ((A.map X.ru.n).sum : Nat), σ) := by
 have hl : (DN A).length ≤ bigN := by have := F.len; rw [List.length_map]; unfold bigN; lia
 haveI := lc_map (x := "place") (fr := [("rules", 8)]) (rest := [.val (.dI (ruL X (List.range 7)))]) (e := fSub (fSub (fv_ 1) (fv_ 0)) (kq (.int 0))) (h := hI (α := Nat) fun i => .int (X.ru.n i : Nat)) (it_DN h) hf (fun d hd => by
   refine Xea (mem_DN hd) fun i hi q2 => ?_; subst q2
   refine Xe (op_of_pos (F.pos i hi)) fun k hk => ?_
   haveI hn : X.ru.n i = ar (X.nm k) := by simp only [Dr.ru, hk]
   show _ = some (D.int (X.ru.n i : Nat), _)
   rw [hn]
   exact e_sub (e_sub (e_var rfl) (e_var rfl) (ru_sub hk)) e_lit ru0) hl
 have e : (DN A).map (hI (α := Nat) fun i => D.int (X.ru.n i : Nat)) = A.map fun i => D.int (X.ru.n i : Nat) := by unfold DN; rw [List.map_map]; rfl
 rw [e] at this
 exact e_call (e_cons (e_mk this) e_lnil) (gSum_nat _ A)
theorem bits_c {σ : LS} {A : List Nat} (F : Fa X t0 A u) (h : σ.getD 10 .non = .val (.list (DN A))) :
   fCall gSum (fC_ (fMk .list (fLC (fItL (fun _ => true) (fv_ 10)) ["place"] [] (gName 0) fAndN (fEmit (fBin .Pow (kq (.int 2)) (fv_ 0))) [])) fnl) σ = some (.int (mask A : Nat), σ) := by
 have hl : (DN A).length ≤ bigN := by have := F.len; rw [List.length_map]; unfold bigN; lia
 haveI := lc_map (x := "place") (fr := []) (rest := []) (e := fBin .Pow (kq (.int 2)) (fv_ 0)) (h := hI (α := Nat) fun i => .int ((2 ^ i : Nat) : Int)) (it_DN h) rfl (fun d hd => by
   refine Xea (mem_DN hd) fun i hi q2 => ?_; subst q2
   have hi7 := F.lt i hi
   haveI h1 : (0 : Int) ≤ ((i : Nat) : Int) ∧ ((i : Nat) : Int) ≤ 1000 ∧ okI 2 := ⟨by omega, by omega, by decide⟩
   have hp : binD .Pow (.int 2) (.int (i : Nat)) = some (.int ((2 ^ i : Nat) : Int)) := by
     refine (if_pos (e := none) h1).trans ?_
     rw [Int.toNat_natCast]
     rw [Int.natCast_pow]; rfl
   exact e_bin e_lit (e_var rfl) hp) hl
 have e : (DN A).map (hI (α := Nat) fun i => D.int ((2 ^ i : Nat) : Int)) = A.map fun i => D.int ((2 ^ i : Nat) : Int) := by unfold DN; rw [List.map_map]; rfl
 rw [e] at this
 exact e_call (e_cons (e_mk this) e_lnil) (gSum_nat (fun i => 2 ^ i) A)
noncomputable def kfD (X : Dr) (d : D) : List KS := match d with
 | .int v => X.key v.toNat
 | _ => []
theorem calls_c {σ : LS} {A : List Nat} (F : Fa X t0 A u) (h : σ.getD 10 .non = .val (.list (DN A))) (hf : fFree ["place"] [("words", 5), ("rules", 8)] σ = some (.non :: [.val (WDd X), .val (.dI (ruL X (List.range 7)))])) :
   fMk .dT (fLC (fItL (fun _ => true) (fv_ 10)) ["place"] [("words", 5), ("rules", 8)] (gName 0) fAndN (fEmitD (fTup (fC_ (fSub (fv_ 1) (fv_ 0)) (fC_ (fv_ 0) (fC_ (fSub (fSub (fv_ 2) (fv_ 0)) (kq (.int 2))) fnl)))) (kq (.int 1))) []) σ = some (.dT (X.calls A), σ) := by
 have hl : (DN A).length ≤ 1000 := by have := F.len; rw [List.length_map]; omega
 have hkeys : (DN A).map (kfD X) = (X.calls A).map (·.1) := by unfold DN Dr.calls; rw [List.map_map, List.map_map]; rfl
 have h3 : ∀ a b c : D, ([a, b, c] : List D).length ≤ bigN := fun _ _ _ => by show 3 ≤ 100000; omega
 have := lc_dict (x := "place") (fr := [("words", 5), ("rules", 8)]) (rest := [.val (WDd X), .val (.dI (ruL X (List.range 7)))]) (fk := fTup (fC_ (fSub (fv_ 1) (fv_ 0)) (fC_ (fv_ 0) (fC_ (fSub (fSub (fv_ 2) (fv_ 0)) (kq (.int 2))) fnl)))) (fe := fun σ => some (.int 1, σ)) (kf := kfD X) (kd := hI (α := Nat) fun i => .tup [.str (X.w i), .int (i : Nat), .str (match X.op i with | some k => X.rt k | none => "")]) (it_DN h) hf (fun d hd => by
   refine Xea (mem_DN hd) fun i hi q2 => ?_; subst q2
   obtain ⟨k, hk⟩ := op_of_pos (F.pos i hi)
   have hkey : kfD X (.int (i : Nat)) = [.s (X.w i), .i (i : Nat), .s (X.rt k)] := by
     show X.key i = _
     unfold Dr.key; rw [hk]
   rw [hkey, hI_eq, hk]
   exact ⟨e_tup (e_cons (e_sub (e_var rfl) (e_var rfl) (wd_sub (F.lt i hi))) (e_cons (e_var rfl) (e_cons (e_sub (e_sub (e_var rfl) (e_var rfl) (ru_sub hk)) e_lit ru2) e_lnil))) (h3 _ _ _), rfl⟩) (fun d _ => rfl) (by rw [hkeys]; exact calls_nd F.nd F.pos) hl
 have e : ((DN A).map fun d => (kfD X d, (1 : Int))) = X.calls A := by unfold DN Dr.calls; rw [List.map_map]; rfl
 rw [e] at this
 exact e_mk this
end
noncomputable abbrev fL9 (c : List Int) (X : Dr) (a b : Nat) (r : LS) : LS := .val (.list (c.map D.int)) :: .val (NLd X a b) :: .val (SHd X) :: .val (sgD X.nm) :: .val (TXd X) :: .val (WDd X) :: r
theorem law_main (PP : Params) (script : List Int) (hs : script.length ≤ 63) : LawPure PP script := by
 refine Xeeeeeaaaaa (numbers_eq hs) fun n0 n1 n2 n3 n4 b0 b1 b2 b3 b4 hnum => ?_
 refine Xea (words_eq (fun k => match k with | 0 => n0 | 1 => n1 | _ => n2) n3) fun X hX hwords => ?_
 refine Xea (tree_eq n4) fun t ht htree => ?_
 haveI hN : g_law_numbers [.list (script.map D.int)] = some (NLd X n3 n4) := by unfold NLd; rw [hX]; exact hnum
 rw [← hX] at hwords
 clear hnum
 have h7 : ∀ i ∈ t.leaves, i < 7 := fun i hi => by rw [ht] at hi; exact List.mem_range.mp hi
 have hlen : t.leaves.length = 7 := by rw [ht]; rfl
 have G : Gd t := ⟨by rw [ht]; exact List.nodup_range, h7, hlen⟩
 refine Xeaa (states_eq (X := X) G) fun es W h0 hstates => ?_
 haveI hread := read_eq (X := X) (PP := PP) ht
 haveI htext := g_text_eq (W := WDd X) (w := X.w) (t := t) (j := 100) (by have := tdep_le t; omega) (fun i hi => ⟨wd_sub (h7 i hi), (w_ok X (h7 i hi)).1⟩) (by omega)
 haveI hfill := fill_lf h7
 refine Xeeaa ((fl_eq (ruL_ok X) 100).1 t ((List.range 7).map Tr.lf) [] (fun k hk => by simpa using h7 k hk) (by simp) (by rw [hfill]; exact G.nd) (by rw [hfill]; omega) (fun p hp => by
   refine Xea (List.mem_map.mp hp) fun i hi q2 => ?_; subst q2
   intro j w hr
   haveI hne : ∀ (x : Tr), x = .lf i → Red X.ru j x w → False := fun x hx hr => by
     cases hr with
     | @hd xs h1 h2 =>
       cases xs with
       | nil => simp at h2; omega
       | cons y ys =>
         haveI := congrArg (fun t : Tr => t.leaves.length) hx
         simp only [Tr.leaves_apps, List.length_append, Tr.leaves, List.map_cons, List.flatten_cons, List.length_cons, List.length_nil] at this
         have hy : 0 < y.leaves.length := List.length_pos_of_mem Tr.head_mem
         omega
     | l h1 => cases hx
     | r h1 => cases hx
   exact hne _ rfl hr) (by rw [hfill]; haveI := size_leaves t; omega) (by rw [hfill]; simp; omega)) fun A u hfl hq hnf => ?_
 rw [hfill] at hq
 rw [List.nil_append] at hfl
 refine Xeaa (ends_one G W h0 hq hnf) fun A' hperm F hends => ?_
 have hrowu := g_row_eq 20 u 100 (by have := size_leaves u; have := F.len; omega) (by omega) (by have := row_length (t := u); have := F.len; omega)
 have htl : ∀ n, n ≤ 20 → n ≤ bigN := fun n h => by unfold bigN; omega
 have hAl : (DN A).length ≤ bigN := by have := F.len; rw [List.length_map]; unfold bigN; omega
 have hgl : gLen [.list (DN A)] = some (.int (A.length : Nat)) := by
   show (if (DN A).length ≤ bigN then some (D.int ((DN A).length : Nat)) else none) = _
   rw [if_pos hAl, List.length_map]
 haveI n3s : subD (NLd X n3 n4) (.int 3) = some (.int (n3 : Nat)) := rfl
 haveI n4s : subD (NLd X n3 n4) (.int 4) = some (.int (n4 : Nat)) := rfl
 haveI q1 : (fAsg 1 (fCall g_law_numbers (fC_ (fv_ 0) fnl))) [.val (.list (script.map D.int)), .non, .non, .non, .non, .non, .non, .non, .non, .non, .non, .non, .non, .non, .non, .non, .non, .non] = some (.next, [.val (.list (script.map D.int)), .val (NLd X n3 n4), .non, .non, .non, .non, .non, .non, .non, .non, .non, .non, .non, .non, .non, .non, .non, .non]) := (e_asg (e_call (e_cons (e_var rfl) e_lnil) hN)).trans rfl
 haveI q2 : (fAsg 2 (fMk .list (fLC (fItL (fun _ => true) (fSlice (fv_ 1) fNoPart (fPart (kq (.int 3))))) ["number"] [] (gName 0) fAndN (fEmit (fCall g_law_shape (fC_ (fv_ 0) fnl))) []))) [.val (.list (script.map D.int)), .val (NLd X n3 n4), .non, .non, .non, .non, .non, .non, .non, .non, .non, .non, .non, .non, .non, .non, .non, .non] = some (.next, [.val (.list (script.map D.int)), .val (NLd X n3 n4), .val (SHd X), .non, .non, .non, .non, .non, .non, .non, .non, .non, .non, .non, .non, .non, .non, .non]) := (e_asg (shapes_c rfl)).trans rfl
 haveI q3 : (fAsg 3 (fMk .list (fLC (fRange (kq (.int 3))) ["k"] [("numbers", 1)] (gName 0) fAndN (fEmit (fCall g_law_sign (fC_ (fSub (fv_ 1) (fv_ 0)) (fC_ (fv_ 0) fnl)))) []))) [.val (.list (script.map D.int)), .val (NLd X n3 n4), .val (SHd X), .non, .non, .non, .non, .non, .non, .non, .non, .non, .non, .non, .non, .non, .non, .non] = some (.next, [.val (.list (script.map D.int)), .val (NLd X n3 n4), .val (SHd X), .val (sgD X.nm), .non, .non, .non, .non, .non, .non, .non, .non, .non, .non, .non, .non, .non, .non]) := (e_asg (signs_c (a := n3) (b := n4) rfl rfl)).trans rfl
 haveI q4 : (fAsg 4 (fMk .list (fLC (fRange (kq (.int 3))) ["k"] [("shapes", 2), ("numbers", 1)] (gName 0) fAndN (fEmit (fCall (g_law_text 100) (fC_ (fSub (fv_ 1) (fv_ 0)) (fC_ (fSub (fTup (fC_ (kq (.str "abc")) (fC_ (kq (.str "ABC")) fnl))) (fBin .Mod (fBin .FloorDiv (fSub (fv_ 2) (fv_ 0)) (kq (.int 180))) (kq (.int 2)))) fnl)))) []))) [.val (.list (script.map D.int)), .val (NLd X n3 n4), .val (SHd X), .val (sgD X.nm), .non, .non, .non, .non, .non, .non, .non, .non, .non, .non, .non, .non, .non, .non] = some (.next, [.val (.list (script.map D.int)), .val (NLd X n3 n4), .val (SHd X), .val (sgD X.nm), .val (TXd X), .non, .non, .non, .non, .non, .non, .non, .non, .non, .non, .non, .non, .non]) := (e_asg (texts_c (a := n3) (b := n4) rfl)).trans rfl
 haveI q5 : (fAsg 5 (fCall g_law_words (fC_ (fSub (fv_ 1) (kq (.int 3))) (fC_ (fv_ 3) fnl)))) [.val (.list (script.map D.int)), .val (NLd X n3 n4), .val (SHd X), .val (sgD X.nm), .val (TXd X), .non, .non, .non, .non, .non, .non, .non, .non, .non, .non, .non, .non, .non] = some (.next, (fL9 script X n3 n4 [.non, .non, .non, .non, .non, .non, .non, .non, .non, .non, .non, .non])) := (e_asg (e_call (e_cons (e_sub (e_var rfl) e_lit n3s) (e_cons (e_var rfl) e_lnil)) hwords)).trans rfl
 haveI q6 : (fAsg 6 (fCall g_law_tree (fC_ (fSub (fv_ 1) (kq (.int 4))) fnl))) (fL9 script X n3 n4 [.non, .non, .non, .non, .non, .non, .non, .non, .non, .non, .non, .non]) = some (.next, (fL9 script X n3 n4 [.val t.d, .non, .non, .non, .non, .non, .non, .non, .non, .non, .non, .non])) := (e_asg (e_call (e_cons (e_sub (e_var rfl) e_lit n4s) e_lnil) htree)).trans rfl
 haveI q7 : (fAsg 7 (fHnew g_init (fLst (fC_ (fTup (fC_ (kq (.str "A")) (fC_ (kq (.str "0")) fnl))) (fC_ (fTup (fC_ (kq (.str "b")) (fC_ (kq (.str "1")) fnl))) (fC_ (fTup (fC_ (kq (.str "C")) (fC_ (kq (.str "2")) fnl))) (fC_ (fTup (fC_ (kq (.str "d")) (fC_ (kq (.str "3")) fnl))) (fC_ (fTup (fC_ (kq (.str "E")) (fC_ (kq (.str "4")) fnl))) (fC_ (fTup (fC_ (kq (.str "f")) (fC_ (kq (.str "5")) fnl))) (fC_ (fTup (fC_ (kq (.str "G")) (fC_ (kq (.str "6")) fnl))) fnl)))))))))) (fL9 script X n3 n4 [.val t.d, .non, .non, .non, .non, .non, .non, .non, .non, .non, .non, .non]) = some (.next, (fL9 script X n3 n4 [.val t.d, .val (.hdr (hd namesL)), .non, .non, .non, .non, .non, .non, .non, .non, .non, .non])) := by kernel_rfl
 haveI q8 : (fAsgT [13, 14] (fCall (g_law_read PP) (fC_ (fCall (g_law_text 100) (fC_ (fv_ 6) (fC_ (fv_ 5) fnl))) (fC_ (fHnew g_init (fMk .list (fLC (fRange (kq (.int 3))) ["k"] [("signs", 3), ("texts", 4)] (gName 0) fAndN (fEmit (fTup (fC_ (fSub (fv_ 1) (fv_ 0)) (fC_ (fSub (fv_ 2) (fv_ 0)) fnl)))) []))) (fC_ (fv_ 7) fnl))))) (fL9 script X n3 n4 [.val t.d, .val (.hdr (hd namesL)), .non, .non, .non, .non, .non, .non, .non, .non, .non, .non]) = some (.next, (fL9 script X n3 n4 [.val t.d, .val (.hdr (hd namesL)), .non, .non, .non, .non, .non, .val (.list ((row t).map D.int)), .val (lvD X), .non, .non, .non])) := e_asgT (e_call (e_cons (e_call (e_cons (e_var rfl) (e_cons (e_var rfl) e_lnil)) htext) (e_cons (book_c (X := X) rfl) (e_cons (e_var rfl) e_lnil))) hread) rfl
 haveI q9 : (fAsgT [15, 16] (fCall g_law_states (fC_ (fv_ 13) (fC_ (fv_ 14) fnl)))) (fL9 script X n3 n4 [.val t.d, .val (.hdr (hd namesL)), .non, .non, .non, .non, .non, .val (.list ((row t).map D.int)), .val (lvD X), .non, .non, .non]) = some (.next, (fL9 script X n3 n4 [.val t.d, .val (.hdr (hd namesL)), .non, .non, .non, .non, .non, .val (.list ((row t).map D.int)), .val (lvD X), .val (.list (endsD X es es.length)), .val (.dI (pf X es)), .non])) := e_asgT (e_call (e_cons (e_var rfl) (e_cons (e_var rfl) e_lnil)) hstates) rfl
 haveI q10 : (fIf (fCmp neC (fMk .list (fLC (fKeys (fv_ 16)) ["one", "two"] [("profiles", 16)] (gName 0) fAndN (fInner (fKeys (fv_ 2)) (gName 1) (fOr (fCmp (cmpD .NotIn) (fBin .BitOr (fv_ 0) (fv_ 1)) (fv_ 2)) (fOr (fCmp (cmpD .NotIn) (fBin .BitAnd (fv_ 0) (fv_ 1)) (fv_ 2)) fOrN)) (fEmit (fv_ 0))) [])) (fLst fnl)) (fSeq (fRet (kq (.bool false))) fBNil) fBNil) (fL9 script X n3 n4 [.val t.d, .val (.hdr (hd namesL)), .non, .non, .non, .non, .non, .val (.list ((row t).map D.int)), .val (lvD X), .val (.list (endsD X es es.length)), .val (.dI (pf X es)), .non]) = some (.next, (fL9 script X n3 n4 [.val t.d, .val (.hdr (hd namesL)), .non, .non, .non, .non, .non, .val (.list ((row t).map D.int)), .val (lvD X), .val (.list (endsD X es es.length)), .val (.dI (pf X es)), .non])) := e_ifF (lat_c G W h0 rfl rfl) e_nil
 haveI q11 : (fNewE 8 (.ownI [])) (fL9 script X n3 n4 [.val t.d, .val (.hdr (hd namesL)), .non, .non, .non, .non, .non, .val (.list ((row t).map D.int)), .val (lvD X), .val (.list (endsD X es es.length)), .val (.dI (pf X es)), .non]) = some (.next, (fL9 script X n3 n4 [.val t.d, .val (.hdr (hd namesL)), .ownI (ruL X (List.range 0)), .non, .non, .non, .non, .val (.list ((row t).map D.int)), .val (lvD X), .val (.list (endsD X es es.length)), .val (.dI (pf X es)), .non])) := rfl
 refine Xee (ru_loop (X := X) (a := n3) (b := n4) (t := t) (R0 := .val (.list (script.map D.int))) (s10 := .non) (s11 := .non) (s12 := .non) (s13 := .val (.list ((row t).map D.int))) (s14 := .val (lvD X)) (s15 := .val (.list (endsD X es es.length))) (s16 := .val (.dI (pf X es))) 7 0 .non .non rfl) fun s9 s17 hru => ?_
 haveI q12 : (fForS (fRange (kq (.int 7))) (gName 9) (fSeq (fIf (fCmp (cmpD .In) (fSub (fv_ 5) (fv_ 9)) (fv_ 3)) (fSeq (fAsg 17 (fMeth "list" gIndex (fv_ 3) (fC_ (fSub (fv_ 5) (fv_ 9)) fnl))) (fSeq (fSetI 8 (fTup (fC_ (fBin .Add (fBin .Add (kq (.int 1)) (fB (fCmp (cmpD .Gt) (fBin .Mod (fSub (fv_ 1) (fv_ 17)) (kq (.int 15))) (kq (.int 0))))) (fB (fCmp (cmpD .Gt) (fBin .Mod (fSub (fv_ 1) (fv_ 17)) (kq (.int 15))) (kq (.int 2))))) (fC_ (fSub (fv_ 2) (fv_ 17)) (fC_ (fSub (fv_ 4) (fv_ 17)) fnl)))) (fv_ 9)) fBNil)) fBNil) fBNil)) (fL9 script X n3 n4 [.val t.d, .val (.hdr (hd namesL)), .ownI (ruL X (List.range 0)), .non, .non, .non, .non, .val (.list ((row t).map D.int)), .val (lvD X), .val (.list (endsD X es es.length)), .val (.dI (pf X es)), .non]) = some (.next, (fL9 script X n3 n4 [.val t.d, .val (.hdr (hd namesL)), .ownI (ruL X (List.range 7)), s9, .non, .non, .non, .val (.list ((row t).map D.int)), .val (lvD X), .val (.list (endsD X es es.length)), .val (.dI (pf X es)), s17])) := e_fors rg7 hru
 haveI q13 : (fNew 10 fnl) (fL9 script X n3 n4 [.val t.d, .val (.hdr (hd namesL)), .ownI (ruL X (List.range 7)), s9, .non, .non, .non, .val (.list ((row t).map D.int)), .val (lvD X), .val (.list (endsD X es es.length)), .val (.dI (pf X es)), s17]) = some (.next, (fL9 script X n3 n4 [.val t.d, .val (.hdr (hd namesL)), .ownI (ruL X (List.range 7)), s9, .ownL false [], .non, .non, .val (.list ((row t).map D.int)), .val (lvD X), .val (.list (endsD X es es.length)), .val (.dI (pf X es)), s17])) := (e_new e_lnil (htl 0 dc)).trans rfl
 haveI q14 : (fAsg 11 (fIO 10 (g_FL 100).1 (fC_ (fv_ 6) (fC_ (fMk .list (fLC (fRange (kq (.int 7))) ["place"] [] (gName 0) fAndN (fEmit (fTup (fC_ (fv_ 0) (fC_ (fLst fnl) fnl)))) [])) (fC_ (fv_ 8) (fLast 10)))))) (fL9 script X n3 n4 [.val t.d, .val (.hdr (hd namesL)), .ownI (ruL X (List.range 7)), s9, .ownL false [], .non, .non, .val (.list ((row t).map D.int)), .val (lvD X), .val (.list (endsD X es es.length)), .val (.dI (pf X es)), s17]) = some (.next, (fL9 script X n3 n4 [.val t.d, .val (.hdr (hd namesL)), .val (.dI (ruL X (List.range 7))), s9, .ownL false (DN A), .val (valD u), .non, .val (.list ((row t).map D.int)), .val (lvD X), .val (.list (endsD X es es.length)), .val (.dI (pf X es)), s17])) :=
   (e_asg (e_io (e_cons (e_var rfl) (e_cons parts_c (e_cons (e_varI rfl) (e_last rfl)))) rfl hfl)).trans rfl
 haveI hfz : fv_ 10 (fL9 script X n3 n4 [.val t.d, .val (.hdr (hd namesL)), .val (.dI (ruL X (List.range 7))), s9, .ownL false (DN A), .val (valD u), .non, .val (.list ((row t).map D.int)), .val (lvD X), .val (.list (endsD X es es.length)), .val (.dI (pf X es)), s17]) = some (.list (DN A), (fL9 script X n3 n4 [.val t.d, .val (.hdr (hd namesL)), .val (.dI (ruL X (List.range 7))), s9, .val (.list (DN A)), .val (valD u), .non, .val (.list ((row t).map D.int)), .val (lvD X), .val (.list (endsD X es es.length)), .val (.dI (pf X es)), s17])) := (e_varL rfl).trans rfl
 haveI q15 : (fAsg 12 (fTup (fC_ (fCall gLen (fC_ (fv_ 10) fnl)) (fC_ (fCall gSum (fC_ (fMk .list (fLC (fItL (fun _ => true) (fv_ 10)) ["place"] [("rules", 8)] (gName 0) fAndN (fEmit (fSub (fSub (fv_ 1) (fv_ 0)) (kq (.int 0)))) [])) fnl)) (fC_ (fCall gSum (fC_ (fMk .list (fLC (fItL (fun _ => true) (fv_ 10)) ["place"] [] (gName 0) fAndN (fEmit (fBin .Pow (kq (.int 2)) (fv_ 0))) [])) fnl)) (fC_ (kq (.int 0)) (fC_ (fMk .dT (fLC (fItL (fun _ => true) (fv_ 10)) ["place"] [("words", 5), ("rules", 8)] (gName 0) fAndN (fEmitD (fTup (fC_ (fSub (fv_ 1) (fv_ 0)) (fC_ (fv_ 0) (fC_ (fSub (fSub (fv_ 2) (fv_ 0)) (kq (.int 2))) fnl)))) (kq (.int 1))) [])) fnl))))))) (fL9 script X n3 n4 [.val t.d, .val (.hdr (hd namesL)), .val (.dI (ruL X (List.range 7))), s9, .ownL false (DN A), .val (valD u), .non, .val (.list ((row t).map D.int)), .val (lvD X), .val (.list (endsD X es es.length)), .val (.dI (pf X es)), s17]) = some (.next, (fL9 script X n3 n4 [.val t.d, .val (.hdr (hd namesL)), .val (.dI (ruL X (List.range 7))), s9, .val (.list (DN A)), .val (valD u), .val (X.prof A), .val (.list ((row t).map D.int)), .val (lvD X), .val (.list (endsD X es es.length)), .val (.dI (pf X es)), s17])) :=
   (e_asg (e_tup (e_cons (e_call (e_cons hfz e_lnil) hgl) (e_cons (sizes_c F rfl rfl) (e_cons (bits_c F rfl) (e_cons e_lit (e_cons (calls_c F rfl rfl) e_lnil))))) (htl 5 dc))).trans rfl
 haveI hE : (D.list (endsD X es es.length)) = .list [.tup [.list ((row u).map D.int), X.prof A']] := by rw [hends]
 haveI hcmp : eqC (.list (endsD X es es.length)) (.list [.tup [.list ((row u).map D.int), X.prof A]]) = some true := by rw [hE]; exact end_eq hperm F.nd F.pos
 haveI q16 : (fRet (fB (fCmp eqC (fv_ 15) (fLst (fC_ (fTup (fC_ (fCall (g_law_row 100) (fC_ (fv_ 11) fnl)) (fC_ (fv_ 12) fnl))) fnl))))) (fL9 script X n3 n4 [.val t.d, .val (.hdr (hd namesL)), .val (.dI (ruL X (List.range 7))), s9, .val (.list (DN A)), .val (valD u), .val (X.prof A), .val (.list ((row t).map D.int)), .val (lvD X), .val (.list (endsD X es es.length)), .val (.dI (pf X es)), s17]) = some (.ret (.bool true), (fL9 script X n3 n4 [.val t.d, .val (.hdr (hd namesL)), .val (.dI (ruL X (List.range 7))), s9, .val (.list (DN A)), .val (valD u), .val (X.prof A), .val (.list ((row t).map D.int)), .val (lvD X), .val (.list (endsD X es es.length)), .val (.dI (pf X es)), s17])) :=
   e_ret (e_fB (e_cmp (e_var rfl) (e_lst (e_cons (e_tup (e_cons (e_call (e_cons (e_var rfl) e_lnil) hrowu) (e_cons (e_var rfl) e_lnil)) (len2 _ _)) e_lnil) (len1 _)) hcmp))
 exact ⟨_, e_seq q1 (e_seq q2 (e_seq q3 (e_seq q4 (e_seq q5 (e_seq q6 (e_seq q7 (e_seq q8 (e_seq q9 (e_seq q10 (e_seq q11 (e_seq q12 (e_seq q13 (e_seq q14 (e_seq q15 (e_seqR q16)))))))))))))))⟩
end Mine
end
end
set_option Elab.async true
section
open PySem PySem.W PySem.Calls PyProof.Rows
namespace Mine.zq
theorem tw12278244354372198097:1=1:=rfl
theorem tw11008244699723169277:1=1:=rfl
theorem tw15822345153065326097:1=1:=rfl
theorem tw5458272931740343480:1=1:=rfl
theorem tw16962553218453561576:1=1:=rfl
theorem tw12186039818779033185:1=1:=rfl
theorem tw9411865296467610816:1=1:=rfl
theorem tw111496355482644543:1=1:=rfl
theorem tw2150292928015164187:1=1:=rfl
theorem tw91657212570981224:1=1:=rfl
theorem tw438018107858696720:1=1:=rfl
theorem tw13063640799069658928:1=1:=rfl
theorem tw8148436779445388707:1=1:=rfl
theorem tw10329652645579544232:1=1:=rfl
theorem tw16283459510264197795:1=1:=rfl
theorem tw11525946845166997059:1=1:=rfl
theorem tw6849403040329646226:1=1:=rfl
theorem tw14826173856353911785:1=1:=rfl
theorem tw1994296249114378374:1=1:=rfl
theorem tw17570961622994918578:1=1:=rfl
theorem tw10083783253115536127:1=1:=rfl
theorem tw10629911801635153171:1=1:=rfl
theorem tw6072335757526160016:1=1:=rfl
theorem tw16000806339440572643:1=1:=rfl
theorem tw16913804909810411231:1=1:=rfl
theorem tw17611483541087507849:1=1:=rfl
theorem tw170238993776076912:1=1:=rfl
theorem tw17702764684875327381:1=1:=rfl
theorem tw4043803252386595447:1=1:=rfl
theorem tw14062147988664312938:1=1:=rfl
theorem tw11426667585073380314:1=1:=rfl
theorem tw13197551409561363605:1=1:=rfl
theorem tw2396354094883020414:1=1:=rfl
theorem tw17607767980272500978:1=1:=rfl
theorem tw5693711447756474075:1=1:=rfl
theorem tw14714027036442138585:1=1:=rfl
theorem tw8793347192847763964:1=1:=rfl
theorem tw6557298478347340814:1=1:=rfl
theorem tw13043461062971081308:1=1:=rfl
theorem tw1691928215964005597:1=1:=rfl
theorem tw15133745839862853906:1=1:=rfl
theorem tw12552103345543173355:1=1:=rfl
theorem tw15156991668108192140:1=1:=rfl
theorem tw4988152887930032624:1=1:=rfl
theorem tw13175307417717623981:1=1:=rfl
theorem tw10051691878124796754:1=1:=rfl
theorem tw17153348039734524134:1=1:=rfl
theorem tw1759809047487108580:1=1:=rfl
theorem tw16097880643429173526:1=1:=rfl
theorem tw14109898775420891462:1=1:=rfl
theorem tw15616535748735140983:1=1:=rfl
theorem tw1708305031809279475:1=1:=rfl
theorem tw2256366931939385367:1=1:=rfl
theorem tw4949480188273085142:1=1:=rfl
theorem tw12306286965247582243:1=1:=rfl
theorem tw8087005827096766132:1=1:=rfl
theorem tw9906314680656185728:1=1:=rfl
theorem tw6618184161294919335:1=1:=rfl
theorem tw3882268674460113967:1=1:=rfl
theorem tw5421371153679977168:1=1:=rfl
theorem tw2877660660830580871:1=1:=rfl
theorem tw15848470721654818703:1=1:=rfl
theorem tw9524146173778593288:1=1:=rfl
theorem tw10700559360290990571:1=1:=rfl
theorem tw15642293660391294965:1=1:=rfl
theorem tw5766474135579386922:1=1:=rfl
theorem tw10732960837888585103:1=1:=rfl
theorem tw1381479980514530146:1=1:=rfl
theorem tw11379992393613139505:1=1:=rfl
theorem tw6088150994375369863:1=1:=rfl
theorem tw18433921912965663049:1=1:=rfl
theorem tw5399461838396089333:1=1:=rfl
theorem tw12470185237960753561:1=1:=rfl
theorem tw17301895330332936640:1=1:=rfl
theorem tw13879232327780458003:1=1:=rfl
theorem tw4468796930317772933:1=1:=rfl
theorem tw5451306637711542260:1=1:=rfl
theorem tw9432573364733278073:1=1:=rfl
theorem tw9746070020670933563:1=1:=rfl
theorem tw17260743953463453843:1=1:=rfl
theorem tw14468747086146787443:1=1:=rfl
theorem tw9778824746272210902:1=1:=rfl
theorem tw18015984115042198268:1=1:=rfl
theorem tw12623093876106428026:1=1:=rfl
theorem tw6618605408160049826:1=1:=rfl
theorem tw17386107200210267906:1=1:=rfl
theorem tw3722979940103711021:1=1:=rfl
theorem tw1039074748247018848:1=1:=rfl
theorem tw10104940780403163223:1=1:=rfl
theorem tw6111548833545694199:1=1:=rfl
theorem tw7528401377363354469:1=1:=rfl
theorem tw5401371726445505990:1=1:=rfl
theorem tw13074290081443757896:1=1:=rfl
theorem tw15584056799946571575:1=1:=rfl
theorem tw17849920397005839592:1=1:=rfl
theorem tw13789620385633992436:1=1:=rfl
theorem tw16603506301187342503:1=1:=rfl
theorem tw10761871784506221606:1=1:=rfl
theorem tw12596680410461737516:1=1:=rfl
theorem tw14157834455637192866:1=1:=rfl
theorem tw12983058445692702738:1=1:=rfl
theorem tw6828482896469252210:1=1:=rfl
theorem tw5659123698078734892:1=1:=rfl
theorem tw4018006406709245361:1=1:=rfl
theorem tw14819753753889954519:1=1:=rfl
theorem tw8609147237024788262:1=1:=rfl
theorem tw11080256541547242427:1=1:=rfl
theorem tw6831016123798902421:1=1:=rfl
theorem tw5380289571112263085:1=1:=rfl
theorem tw3248252985974794210:1=1:=rfl
theorem tw10087980743052370786:1=1:=rfl
theorem tw17378973011610647426:1=1:=rfl
theorem tw8606150491260883981:1=1:=rfl
theorem tw9611302553493275240:1=1:=rfl
theorem tw17338299864491396436:1=1:=rfl
theorem tw7835398465858821252:1=1:=rfl
theorem tw2328741496203322520:1=1:=rfl
theorem tw10346946023905833274:1=1:=rfl
theorem tw16206905670434486482:1=1:=rfl
theorem tw13853125194847558915:1=1:=rfl
theorem tw8814504793469628553:1=1:=rfl
theorem tw7340800940679836105:1=1:=rfl
theorem tw4923554725236693780:1=1:=rfl
theorem tw13040609585151313921:1=1:=rfl
theorem tw17663095864894354318:1=1:=rfl
theorem tw1758498259327788770:1=1:=rfl
theorem tw18276095993714209692:1=1:=rfl
theorem tw16879198181381307067:1=1:=rfl
theorem tw10878702791029307417:1=1:=rfl
theorem tw4141366450540812429:1=1:=rfl
theorem tw1108587242933081006:1=1:=rfl
theorem tw16729129540448502379:1=1:=rfl
theorem tw9164191019120581636:1=1:=rfl
theorem tw15722753347818405115:1=1:=rfl
theorem tw552400566514347710:1=1:=rfl
theorem tw10676998083612684952:1=1:=rfl
theorem tw14316675440191232923:1=1:=rfl
theorem tw14650053286637109893:1=1:=rfl
theorem tw2501575650727587404:1=1:=rfl
theorem tw11947440057932385368:1=1:=rfl
theorem tw1296953663325264528:1=1:=rfl
theorem tw12949973648981772477:1=1:=rfl
theorem tw5867752373570249449:1=1:=rfl
theorem tw13532857069113241039:1=1:=rfl
theorem tw11776577317241206721:1=1:=rfl
theorem tw12526449458435524077:1=1:=rfl
theorem tw811439944979168036:1=1:=rfl
theorem tw15133663080887080067:1=1:=rfl
theorem tw5566462635341991157:1=1:=rfl
theorem tw4200161992111622905:1=1:=rfl
theorem tw10735107662632175170:1=1:=rfl
theorem tw10763550565454567178:1=1:=rfl
theorem tw14883739341802557843:1=1:=rfl
theorem tw9714777007150056670:1=1:=rfl
theorem tw4126317189228121477:1=1:=rfl
theorem tw912023302886705024:1=1:=rfl
theorem tw2793590207700024920:1=1:=rfl
theorem tw9910153968612432254:1=1:=rfl
theorem tw10670313012528962858:1=1:=rfl
theorem tw14164695307245111015:1=1:=rfl
theorem tw7406055659271383633:1=1:=rfl
theorem tw10250828636819459794:1=1:=rfl
theorem tw17081085641233491823:1=1:=rfl
theorem tw6614475101325609479:1=1:=rfl
theorem tw14321319816132143095:1=1:=rfl
theorem tw14122326674682811107:1=1:=rfl
theorem tw9884165099207907384:1=1:=rfl
theorem tw12487167562424472982:1=1:=rfl
theorem tw17927855932422566365:1=1:=rfl
theorem tw398261531866630157:1=1:=rfl
theorem tw1292070813913965909:1=1:=rfl
theorem tw18334130874716696961:1=1:=rfl
theorem tw8593970312667364837:1=1:=rfl
theorem tw8435037732774577135:1=1:=rfl
theorem tw13984669114662545847:1=1:=rfl
theorem tw8409782062552086738:1=1:=rfl
theorem tw10071339592152176537:1=1:=rfl
theorem tw5428619924652558463:1=1:=rfl
theorem tw9561540031642064737:1=1:=rfl
theorem tw4819612091459396731:1=1:=rfl
theorem tw2970613489441752943:1=1:=rfl
theorem tw35536635857542600:1=1:=rfl
theorem tw13413993712387868549:1=1:=rfl
theorem tw3896602841408683235:1=1:=rfl
theorem tw11837471501202387422:1=1:=rfl
theorem tw16711443515238136845:1=1:=rfl
theorem tw1599559591785323906:1=1:=rfl
theorem tw16423277344132148190:1=1:=rfl
theorem tw13613884259284591190:1=1:=rfl
theorem tw11051654270638072470:1=1:=rfl
theorem tw7123749242935586561:1=1:=rfl
theorem tw5787744450791134473:1=1:=rfl
theorem tw11966862426355785057:1=1:=rfl
theorem tw3981552493677793658:1=1:=rfl
theorem tw9272328677883198733:1=1:=rfl
theorem tw7332461063296569625:1=1:=rfl
theorem tw3368925164287522016:1=1:=rfl
theorem tw2032320864207038470:1=1:=rfl
theorem tw6867663716010780313:1=1:=rfl
theorem tw16053728789442188228:1=1:=rfl
theorem tw2501659823360314503:1=1:=rfl
theorem tw1173609270169207507:1=1:=rfl
theorem tw396788108878892344:1=1:=rfl
theorem tw2698151402925811026:1=1:=rfl
theorem tw17495361172980797170:1=1:=rfl
theorem tw4284252530088205432:1=1:=rfl
theorem tw6674590256271446653:1=1:=rfl
theorem tw7808820666469326831:1=1:=rfl
theorem tw2914748098248964155:1=1:=rfl
theorem tw539130153637292729:1=1:=rfl
theorem tw8483353675784332172:1=1:=rfl
theorem tw15195459051272249393:1=1:=rfl
theorem tw7003793265317158240:1=1:=rfl
theorem tw6460389252757030842:1=1:=rfl
theorem tw17385664430813059804:1=1:=rfl
theorem tw8993615961168567762:1=1:=rfl
theorem tw2657774071384401392:1=1:=rfl
theorem tw7203570865380294718:1=1:=rfl
theorem tw12503520395925537753:1=1:=rfl
theorem tw10335885337753902101:1=1:=rfl
theorem tw11531287128831376370:1=1:=rfl
theorem tw3001314922800556600:1=1:=rfl
theorem tw13242435249399246439:1=1:=rfl
theorem tw4041709817192822780:1=1:=rfl
theorem tw10573678491065647948:1=1:=rfl
theorem tw17852376909550338229:1=1:=rfl
theorem tw16632355391510104202:1=1:=rfl
theorem tw13788247952037309391:1=1:=rfl
theorem tw15843754186528587826:1=1:=rfl
theorem tw3904958056110262757:1=1:=rfl
theorem tw12154170917667083197:1=1:=rfl
theorem tw7901932750224135083:1=1:=rfl
theorem tw11780096591055853972:1=1:=rfl
theorem tw13337079577368795956:1=1:=rfl
theorem tw10721732326827317354:1=1:=rfl
theorem tw18103107687473217785:1=1:=rfl
theorem tw17672565976848147576:1=1:=rfl
end Mine.zq
set_option maxHeartbeats 8000000 in
theorem Mine.zq : PySem.Challenge.rw_zd0017_01.Holds := by
 w_on; o_law; k_head; (case hw => w_witness2)
 k_fill
 intro w s₀ s₁ mg mb G Y fa o pm cd doc dV kV ho hd hcd hD hmg hg args vals as hpre hlay hrd hwl hlo
 have KX := kIn_of Y
 refine Ground.open G ?_
 intro T B D TE TW
 clear hD hd hcd D Y G B TE TW
 wrow_args hpre hlay hrd hwl hlo
 all_goals (rename Well _ _ _ _ => hW; rename (¬ _ < _) => hlen)
 refine Mine.law_start (Mine.law_main _ _ (by omega)) KX ⟨171, _, by decide, KX 171 _ rfl⟩ (fun C hK hc ok => ⟨hc, ok, ?_, ?_, ?_, ?_, ?_, ?_, ?_, ?_, ?_, ?_, ?_, ?_, ?_, ?_, ?_, ?_, ?_⟩) T hmg hW fun s' h1 h2 h3 => ?_
 · rw [hK]; kernel_rfl
 · rw [hK]; exact ⟨_, rfl⟩
 · rw [hK]; kernel_rfl
 · rw [hK]; kernel_rfl
 · rw [hK]; kernel_rfl
 · rw [hK]; exact ⟨48, by kernel_rfl⟩
 · rw [hK]; exact ⟨42, _, _, _, rfl, rfl, rfl, rfl, rfl, by kernel_rfl⟩
 · rw [hK]; exact ⟨47, _, _, _, rfl, rfl, rfl, rfl, rfl, by kernel_rfl⟩
 · rw [hK]; kernel_rfl
 · rw [hK]; kernel_rfl
 · refine ⟨?_, ?_, ?_, ?_⟩ <;> rw [hK, hc]
   · kernel_rfl
   · kernel_rfl
   · refine ⟨_, rfl, rfl⟩
   · kernel_rfl
 · refine ⟨?_, ?_, ?_, ?_, ?_⟩ <;> rw [hK, hc] <;> kernel_rfl
 · refine ⟨?_, ?_, ?_, by decide⟩ <;> rw [hK] <;> (try rw [hc]) <;> kernel_rfl
 · refine ⟨?_, ?_, ?_, by decide⟩ <;> rw [hK] <;> (try rw [hc]) <;> kernel_rfl
 · refine ⟨?_, ?_, ?_, by decide⟩ <;> rw [hK] <;> (try rw [hc]) <;> kernel_rfl
 · refine ⟨?_, ?_, ?_, by decide⟩ <;> rw [hK] <;> (try rw [hc]) <;> kernel_rfl
 · refine ⟨?_, ?_, ?_, by decide⟩ <;> rw [hK] <;> (try rw [hc]) <;> kernel_rfl
 · refine GoodW.toG ⟨.inl ⟨.bool true, .bool true, [], rfl, fun _ => rfl, .bool true, ?_, fun h => ⟨.nil, fun _ h => by cases h⟩⟩, h3, h2, h1.trans hg⟩
   kernel_rfl
theorem PySem.Challenge.cw_zd0017_01_holds : PySem.Challenge.rw_zd0017_01.Holds :=
 Mine.zq
end
