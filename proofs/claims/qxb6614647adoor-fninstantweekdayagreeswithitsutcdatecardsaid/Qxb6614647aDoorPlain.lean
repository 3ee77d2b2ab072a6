/-
  THE PLAIN LAW: two calendars on natural numbers agree, day by day, on the days that an Instant reaches (0 to 49710). No Go in sight.
-/
namespace Go.Proofs.Qxb6614647aDoor.Plain

/-! the civil calendar of the law's own text (days from 0000-03-01) -/
def era (n : Nat) : Nat := (n + 719468) / 146097
def doe (n : Nat) : Nat := n + 719468 - era n * 146097
def yoeOf (e : Nat) : Nat := (e - e / 1460 + e / 36524 - e / 146096) / 365
def yoe (n : Nat) : Nat := yoeOf (doe n)
def doyOf (e y : Nat) : Nat := e - (365 * y + y / 4 - y / 100)
def doy (n : Nat) : Nat := doyOf (doe n) (yoe n)
def mp (n : Nat) : Nat := (5 * doy n + 2) / 153
def cY (n : Nat) : Nat := cond (Nat.ble (mp n) 9) (yoe n + era n * 400) (yoe n + era n * 400 + 1)
def cM (n : Nat) : Nat := cond (Nat.ble (mp n) 9) (mp n + 3) (mp n - 9)
def cD (n : Nat) : Nat := doy n + 1 - (153 * mp n + 2) / 5

/-! the program's own reckoning (days from 0001-01-01) -/
def leapB (y : Nat) : Bool := (y % 4).beq 0 && (!((y % 100).beq 0) || (y % 400).beq 0)
def tab (m : Nat) : Nat := [0, 31, 59, 90, 120, 151, 181, 212, 243, 273, 304, 334].getD (m - 1) 0
def fom (y m : Nat) : Nat := cond (Nat.ble m 2) (tab m) (cond (leapB y) (tab m + 1) (tab m))
def cyc (n : Nat) : Nat := (n + 719162) / 146097
def n1 (n : Nat) : Nat := n + 719162 - cyc n * 146097
def min3 (a : Nat) : Nat := cond (Nat.ble a 3) a 3
def cen (n : Nat) : Nat := min3 (n1 n / 36524)
def n2 (n : Nat) : Nat := n1 n - cen n * 36524
def spa (n : Nat) : Nat := n2 n / 1461
def n3 (n : Nat) : Nat := n2 n - spa n * 1461
def yrs (n : Nat) : Nat := min3 (n3 n / 365)
def n4 (n : Nat) : Nat := n3 n - yrs n * 365
def dY (n : Nat) : Nat := cyc n * 400 + cen n * 100 + spa n * 4 + yrs n + 1
def m0 (n : Nat) : Nat := n4 n / 31 + 1
def later (n : Nat) : Bool := Nat.ble (fom (dY n) (m0 n + 1)) (n4 n)
def dM (n : Nat) : Nat := cond (Nat.ble (m0 n) 11) (cond (later n) (m0 n + 1) (m0 n)) (m0 n)
def dD (n : Nat) : Nat := n4 n + 1 - fom (dY n) (dM n)

/-! the weekday of a date -/
def offs (m : Nat) : Nat := [0, 0, 3, 2, 5, 0, 3, 5, 1, 4, 6, 2].getD m 4
def sakY (y m : Nat) : Nat := cond (Nat.ble 3 m) y (y - 1)
def sakOf (y m d : Nat) : Nat := (y + y / 4 - y / 100 + y / 400 + offs m + d) % 7
def sak (y m d : Nat) : Nat := sakOf (sakY y m) m d

def ok (n : Nat) : Bool :=
  (Nat.ble (365 * yoe n + yoe n / 4 - yoe n / 100) (doe n) && Nat.ble (doy n) 365) &&
  ((cY n).beq (dY n) && (cM n).beq (dM n) && (cD n).beq (dD n)) &&
  (Nat.ble (fom (dY n) (dM n)) (n4 n) && Nat.ble (dD n) 31) && (sak (dY n) (dM n) (dD n)).beq ((n + 4) % 7)

end Go.Proofs.Qxb6614647aDoor.Plain
